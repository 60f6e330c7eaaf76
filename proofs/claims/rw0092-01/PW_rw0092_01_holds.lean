import PyProof.Rows.All
import Wide.All
import OpenK.AllK
import Wide.FinOn
import Lean
import PySem.Challenge.RW_rw0092_01
open PySem PySem.W PyProof.Rows
set_option Elab.async false

/-! V1 -/
namespace Mine
set_option linter.unusedVariables false

/-! Plain values and how a heap bears them. -/
inductive PV where
  | int (i : Int)
  | bool (b : Bool)
  | str (s : Str)
  | none
  | list (l : List PV)
  | tup (l : List PV)
  | adr (a : Addr)
  deriving Inhabited

mutual
def Rep (X : Addr → Prop) (h : Heap) : PV → Value → Prop
  | .int i, v => ∃ t, v = .int i t
  | .bool b, v => v = .bool b
  | .str s, v => ∃ t, v = .str s t
  | .none, v => v = .none
  | .adr a, v => v = .ref a
  | .list l, v => ∃ a vs, v = .ref a ∧ (h.PlainList a vs.toArray ∧ ¬ X a) ∧ RepL X h l vs
  | .tup l, v => ∃ a vs, v = .ref a ∧ (h.IsTuple a vs.toArray ∧ ¬ X a) ∧ RepL X h l vs
def RepL (X : Addr → Prop) (h : Heap) : List PV → List Value → Prop
  | [], vs => vs = []
  | p :: ps, vs => ∃ v vs', vs = v :: vs' ∧ Rep X h p v ∧ RepL X h ps vs'
end

abbrev Stay (h h' : Heap) : Prop := ∀ b o, h.get? b = some o → h'.get? b = some o
/-- the sequences outside X stay -/
def StayS (X : Addr → Prop) (h h' : Heap) : Prop := ∀ b o, h.get? b = some o → ¬ X b → (∃ xs n, o.data = .seq xs n) → h'.get? b = some o

mutual
theorem Rep.stayS {X : Addr → Prop} {h h' : Heap} (k : StayS X h h') : ∀ (p : PV) (v : Value), Rep X h p v → Rep X h' p v
  | .int _, _, r => by unfold Rep at r ⊢; exact r
  | .bool _, _, r => by unfold Rep at r ⊢; exact r
  | .str _, _, r => by unfold Rep at r ⊢; exact r
  | .none, _, r => by unfold Rep at r ⊢; exact r
  | .adr _, _, r => by unfold Rep at r ⊢; exact r
  | .list l, _, r => by
    unfold Rep at r ⊢
    obtain ⟨a, vs, e, ⟨⟨n, hl⟩, hX⟩, hr⟩ := r
    exact ⟨a, vs, e, ⟨⟨n, k _ _ hl hX ⟨_, n, rfl⟩⟩, hX⟩, RepL.stayS k l vs hr⟩
  | .tup l, _, r => by
    unfold Rep at r ⊢
    obtain ⟨a, vs, e, ⟨⟨o, ho, hc, n, hd⟩, hX⟩, hr⟩ := r
    exact ⟨a, vs, e, ⟨⟨o, k _ _ ho hX ⟨_, n, hd⟩, hc, n, hd⟩, hX⟩, RepL.stayS k l vs hr⟩
theorem RepL.stayS {X : Addr → Prop} {h h' : Heap} (k : StayS X h h') : ∀ (ps : List PV) (vs : List Value), RepL X h ps vs → RepL X h' ps vs
  | [], _, r => by unfold RepL at r ⊢; exact r
  | p :: ps, _, r => by
    unfold RepL at r ⊢
    obtain ⟨v, vs', e, hp, hr⟩ := r
    exact ⟨v, vs', e, Rep.stayS k p v hp, RepL.stayS k ps vs' hr⟩
end
theorem Rep.stay {X : Addr → Prop} {h h' : Heap} (k : Stay h h') {p : PV} {v : Value} (r : Rep X h p v) : Rep X h' p v := r.stayS (fun b o e _ _ => k b o e) p v
theorem RepL.stay {X : Addr → Prop} {h h' : Heap} (k : Stay h h') {ps : List PV} {vs : List Value} (r : RepL X h ps vs) : RepL X h' ps vs := r.stayS (fun b o e _ _ => k b o e) ps vs
mutual
theorem Rep.less {X Y : Addr → Prop} {h : Heap} (k : ∀ a, Y a → X a) : ∀ (p : PV) (v : Value), Rep X h p v → Rep Y h p v
  | .int _, _, r => by unfold Rep at r ⊢; exact r
  | .bool _, _, r => by unfold Rep at r ⊢; exact r
  | .str _, _, r => by unfold Rep at r ⊢; exact r
  | .none, _, r => by unfold Rep at r ⊢; exact r
  | .adr _, _, r => by unfold Rep at r ⊢; exact r
  | .list l, _, r => by
    unfold Rep at r ⊢
    obtain ⟨a, vs, e, ⟨hl, hX⟩, hr⟩ := r
    exact ⟨a, vs, e, ⟨hl, fun y => hX (k _ y)⟩, RepL.less k l vs hr⟩
  | .tup l, _, r => by
    unfold Rep at r ⊢
    obtain ⟨a, vs, e, ⟨hl, hX⟩, hr⟩ := r
    exact ⟨a, vs, e, ⟨hl, fun y => hX (k _ y)⟩, RepL.less k l vs hr⟩
theorem RepL.less {X Y : Addr → Prop} {h : Heap} (k : ∀ a, Y a → X a) : ∀ (ps : List PV) (vs : List Value), RepL X h ps vs → RepL Y h ps vs
  | [], _, r => by unfold RepL at r ⊢; exact r
  | p :: ps, _, r => by
    unfold RepL at r ⊢
    obtain ⟨v, vs', e, hp, hr⟩ := r
    exact ⟨v, vs', e, Rep.less k p v hp, RepL.less k ps vs' hr⟩
end

mutual
theorem Rep.more {X Y : Addr → Prop} {h : Heap} (k : ∀ a o, h.get? a = some o → Y a → X a) : ∀ (p : PV) (v : Value), Rep X h p v → Rep Y h p v
  | .int _, _, r => by unfold Rep at r ⊢; exact r
  | .bool _, _, r => by unfold Rep at r ⊢; exact r
  | .str _, _, r => by unfold Rep at r ⊢; exact r
  | .none, _, r => by unfold Rep at r ⊢; exact r
  | .adr _, _, r => by unfold Rep at r ⊢; exact r
  | .list l, _, r => by
    unfold Rep at r ⊢
    obtain ⟨a, vs, e, ⟨⟨n, hl⟩, hX⟩, hr⟩ := r
    exact ⟨a, vs, e, ⟨⟨n, hl⟩, fun y => hX (k _ _ hl y)⟩, RepL.more k l vs hr⟩
  | .tup l, _, r => by
    unfold Rep at r ⊢
    obtain ⟨a, vs, e, ⟨⟨o, ho, q⟩, hX⟩, hr⟩ := r
    exact ⟨a, vs, e, ⟨⟨o, ho, q⟩, fun y => hX (k _ _ ho y)⟩, RepL.more k l vs hr⟩
theorem RepL.more {X Y : Addr → Prop} {h : Heap} (k : ∀ a o, h.get? a = some o → Y a → X a) : ∀ (ps : List PV) (vs : List Value), RepL X h ps vs → RepL Y h ps vs
  | [], _, r => by unfold RepL at r ⊢; exact r
  | p :: ps, _, r => by
    unfold RepL at r ⊢
    obtain ⟨v, vs', e, hp, hr⟩ := r
    exact ⟨v, vs', e, Rep.more k p v hp, RepL.more k ps vs' hr⟩
end

theorem RepL.length {X : Addr → Prop} {h : Heap} : ∀ {ps : List PV} {vs : List Value}, RepL X h ps vs → vs.length = ps.length
  | [], _, r => by unfold RepL at r; subst r; rfl
  | p :: ps, _, r => by
    unfold RepL at r
    obtain ⟨v, vs', rfl, _, hr⟩ := r
    rw [List.length_cons, List.length_cons, RepL.length hr]

theorem RepL.get {X : Addr → Prop} {h : Heap} : ∀ {ps : List PV} {vs : List Value}, RepL X h ps vs → ∀ {i : Nat} {p : PV}, ps[i]? = some p → ∃ v, vs[i]? = some v ∧ Rep X h p v
  | [], _, _, i, p, e => by simp at e
  | q :: ps, _, r, i, p, e => by
    unfold RepL at r
    obtain ⟨v, vs', rfl, hp, hr⟩ := r
    cases i with
    | zero => simp at e; subst e; exact ⟨v, rfl, hp⟩
    | succ i => simp at e; obtain ⟨u, hu, hq⟩ := RepL.get hr e; exact ⟨u, by simpa using hu, hq⟩
theorem RepL.back {X : Addr → Prop} {h : Heap} : ∀ {ps : List PV} {vs : List Value}, RepL X h ps vs → ∀ {i : Nat} {v : Value}, vs[i]? = some v → ∃ p, ps[i]? = some p ∧ Rep X h p v
  | [], _, r, i, v, e => by unfold RepL at r; subst r; simp at e
  | q :: ps, _, r, i, v, e => by
    unfold RepL at r
    obtain ⟨u, vs', rfl, hp, hr⟩ := r
    cases i with
    | zero => simp at e; subst e; exact ⟨q, rfl, hp⟩
    | succ i => simp at e; obtain ⟨p, hq, hv⟩ := RepL.back hr e; exact ⟨p, by simpa using hq, hv⟩
theorem RepL.append {X : Addr → Prop} {h : Heap} : ∀ {ps qs : List PV} {vs us : List Value}, RepL X h ps vs → RepL X h qs us → RepL X h (ps ++ qs) (vs ++ us)
  | [], _, _, _, r, r' => by unfold RepL at r; subst r; exact r'
  | p :: ps, qs, _, us, r, r' => by
    unfold RepL at r
    obtain ⟨v, vs', rfl, hp, hr⟩ := r
    show RepL X h (p :: (ps ++ qs)) (v :: (vs' ++ us))
    unfold RepL
    exact ⟨v, _, rfl, hp, RepL.append hr r'⟩
theorem RepL.one {X : Addr → Prop} {h : Heap} {p : PV} {v : Value} (r : Rep X h p v) : RepL X h [p] [v] := by
  unfold RepL; exact ⟨v, [], rfl, r, by unfold RepL; rfl⟩
theorem RepL.nil {X : Addr → Prop} {h : Heap} : RepL X h [] [] := by unfold RepL; rfl
theorem RepL.cons {X : Addr → Prop} {h : Heap} {p : PV} {v : Value} {ps : List PV} {vs : List Value} (r : Rep X h p v) (r' : RepL X h ps vs) : RepL X h (p :: ps) (v :: vs) := by
  unfold RepL; exact ⟨v, vs, rfl, r, r'⟩
theorem RepL.of_get {X : Addr → Prop} {h : Heap} : ∀ {ps : List PV} {vs : List Value}, vs.length = ps.length → (∀ (i : Nat) (p : PV) (v : Value), ps[i]? = some p → vs[i]? = some v → Rep X h p v) → RepL X h ps vs
  | [], [], _, _ => .nil
  | [], _ :: _, e, _ => by simp at e
  | _ :: _, [], e, _ => by simp at e
  | p :: ps, v :: vs, e, H => .cons (H 0 p v rfl rfl) (RepL.of_get (by simpa using e) fun i q u h1 h2 => H (i + 1) q u (by simpa using h1) (by simpa using h2))

theorem Rep.int {X : Addr → Prop} {h : Heap} {i : Int} {v : Value} (r : Rep X h (.int i) v) : ∃ t, v = .int i t := by unfold Rep at r; exact r
theorem Rep.bool {X : Addr → Prop} {h : Heap} {b : Bool} {v : Value} (r : Rep X h (.bool b) v) : v = .bool b := by unfold Rep at r; exact r
theorem Rep.str {X : Addr → Prop} {h : Heap} {x : Str} {v : Value} (r : Rep X h (.str x) v) : ∃ t, v = .str x t := by unfold Rep at r; exact r
theorem Rep.none {X : Addr → Prop} {h : Heap} {v : Value} (r : Rep X h .none v) : v = .none := by unfold Rep at r; exact r
theorem Rep.list {X : Addr → Prop} {h : Heap} {l : List PV} {v : Value} (r : Rep X h (.list l) v) : ∃ a vs, v = .ref a ∧ (h.PlainList a vs.toArray ∧ ¬ X a) ∧ RepL X h l vs := by unfold Rep at r; exact r
theorem Rep.tup {X : Addr → Prop} {h : Heap} {l : List PV} {v : Value} (r : Rep X h (.tup l) v) : ∃ a vs, v = .ref a ∧ (h.IsTuple a vs.toArray ∧ ¬ X a) ∧ RepL X h l vs := by unfold Rep at r; exact r
theorem rep_int {X : Addr → Prop} {h : Heap} {i : Int} {t : Tok} : Rep X h (.int i) (.int i t) := by unfold Rep; exact ⟨t, rfl⟩
theorem rep_bool {X : Addr → Prop} {h : Heap} {b : Bool} : Rep X h (.bool b) (.bool b) := by unfold Rep; rfl
theorem rep_str {X : Addr → Prop} {h : Heap} {x : Str} {t : Tok} : Rep X h (.str x) (.str x t) := by unfold Rep; exact ⟨t, rfl⟩
theorem rep_none {X : Addr → Prop} {h : Heap} : Rep X h .none .none := by unfold Rep; rfl
theorem rep_list {X : Addr → Prop} {h : Heap} {l : List PV} {a : Addr} {vs : List Value} (hl : h.PlainList a vs.toArray) (hX : ¬ X a) (r : RepL X h l vs) : Rep X h (.list l) (.ref a) := by unfold Rep; exact ⟨a, vs, rfl, ⟨hl, hX⟩, r⟩
theorem rep_tup {X : Addr → Prop} {h : Heap} {l : List PV} {a : Addr} {vs : List Value} (hl : h.IsTuple a vs.toArray) (hX : ¬ X a) (r : RepL X h l vs) : Rep X h (.tup l) (.ref a) := by unfold Rep; exact ⟨a, vs, rfl, ⟨hl, hX⟩, r⟩

theorem Stay.refl (h : Heap) : Stay h h := fun _ _ e => e
theorem Stay.trans {a b c : Heap} (x : Stay a b) (y : Stay b c) : Stay a c := fun _ _ e => y _ _ (x _ _ e)
theorem stay_push (h : Heap) (o : Obj) : Stay h (h.push o) := fun _ _ e => Heap.get?_push_of_some _ e
theorem krefl (s : Shared) : Keeps s s := ⟨s.heap, s.toks, rfl, fun _ _ e => e⟩
theorem ktrans {a b c : Shared} (x : Keeps a b) (y : Keeps b c) : Keeps a c := by
  obtain ⟨h1, t1, rfl, k1⟩ := x
  obtain ⟨h2, t2, rfl, k2⟩ := y
  exact ⟨h2, t2, rfl, fun b o e => k2 b o (k1 b o e)⟩
theorem Keepsl {s s' : Shared} (x : Keeps s s') : Stay s.heap s'.heap := by
  obtain ⟨h1, t1, rfl, k1⟩ := x
  exact k1
theorem kmk {s : Shared} {h' : Heap} (tk : Nat) (k : Stay s.heap h') : Keeps s { s with heap := h', toks := tk } := ⟨h', tk, rfl, k⟩
theorem kpush (s : Shared) (o : Obj) : Keeps s { s with heap := s.heap.push o } := ⟨_, s.toks, rfl, stay_push _ _⟩
theorem ktok (s : Shared) (tk : Nat) : Keeps s { s with toks := tk } := ⟨s.heap, tk, rfl, fun _ _ e => e⟩

/-! What stands at the top. -/
structure TopI where
  mg : Str → Option Value
  mb : Str → Option Value
  T : Heap → Prop
  stable : ∀ h h', T h → Stay h h' → T h'
  g : ∀ h, T h → h.Ns mainGlobals mg
  b : ∀ h, T h → h.Ns builtinsNs mb
  lim : ∀ h, T h → h.NoLimit
  blt : ∀ x : Str, x ≠ "__name__" → mb x = bootBuiltins x

structure FI (X : Addr → Prop) (τ : TopI) (h₀ : Heap) (own : List Str) (env : Env) (ρ : List (Str × PV)) (h : Heap) : Prop where
  t : τ.T h₀
  xs : ∀ a, X a → ∃ o, h.get? a = some o
  keep : Stay h₀ h
  fresh : h₀.get? env.locals = none
  freshC : ∀ x c, x ∈ own → env.cells.lookup x = some c → h₀.get? c = none
  glob : env.globals = mainGlobals
  blt : env.builtins = builtinsNs
  fn : env.scope.kind = .function
  L : ∃ m, h.Ns env.locals m ∧ ∀ x p, ρ.lookup x = some p → env.kindOf x = some .local → ∃ v, m x = some v ∧ Rep X h p v
  C : ∀ x p, ρ.lookup x = some p → (env.kindOf x = some .cell ∨ env.kindOf x = some .free) → ∃ c v, env.cells.lookup x = some c ∧ h.IsCell c (some v) ∧ Rep X h p v
  cs : ∀ x, x ∈ own → env.kindOf x = some .cell ∧ ∃ c v₀, env.cells.lookup x = some c ∧ h.IsCell c v₀
  inj : ∀ x y c, env.cells.lookup x = some c → env.cells.lookup y = some c → x = y

theorem FI.stay {X : Addr → Prop} {τ : TopI} {h₀ h h' : Heap} {own : List Str} {env : Env} {ρ : List (Str × PV)} (F : FI X τ h₀ own env ρ h) (k : Stay h h') : FI X τ h₀ own env ρ h' where
  t := F.t
  xs := fun a x => let ⟨o, e⟩ := F.xs a x; ⟨o, k _ _ e⟩
  keep := F.keep.trans k
  fresh := F.fresh
  freshC := F.freshC
  glob := F.glob
  blt := F.blt
  fn := F.fn
  L := let ⟨m, n, H⟩ := F.L; ⟨m, n.keeps k, fun x p e q => let ⟨v, a, b⟩ := H x p e q; ⟨v, a, b.stay k⟩⟩
  C := fun x p e q => let ⟨c, v, a, b, d⟩ := F.C x p e q; ⟨c, v, a, b.keeps k, d.stay k⟩
  cs := fun x q => let ⟨e, c, v, a, b⟩ := F.cs x q; ⟨e, c, v, a, b.keeps k⟩
  inj := F.inj

theorem FI.tt {X : Addr → Prop} {τ : TopI} {h₀ h : Heap} {own : List Str} {env : Env} {ρ : List (Str × PV)} (F : FI X τ h₀ own env ρ h) : τ.T h := τ.stable _ _ F.t F.keep
section
variable {prog : Program} {w : World} {τ : TopI} {A : Around} {env : Env} {ρ : List (Str × PV)}

/-- evaluating e gives p -/
structure Ev (prog : Program) (w : World) (τ : TopI) (A : Around) (env : Env) (ρ : List (Str × PV)) (e : Expr) (p : PV) : Prop where
  run : ∀ (X : Addr → Prop) (h₀ : Heap) (own : List Str) (s : Shared) (Q : Value → Shared → Prop) (E : Value → Shared → Prop), FI X τ h₀ own env ρ s.heap →
    (∀ v s', Keeps s s' → Rep X s'.heap p v → Q v s') → wpAny (model prog w) A (eval e env) Q E s

/-- the operator's step -/
structure Bo (prog : Program) (w : World) (A : Around) (op : Operator) (p q r : PV) : Prop where
  run : ∀ (X : Addr → Prop) (s : Shared) (a b : Value) (Q : Value → Shared → Prop) (E : Value → Shared → Prop), (∀ a, X a → ∃ o, s.heap.get? a = some o) → Rep X s.heap p a → Rep X s.heap q b →
    (∀ v s', Keeps s s' → Rep X s'.heap r v → Q v s') → wpAny (model prog w) A (binaryOp op a b) Q E s
structure Co (prog : Program) (w : World) (A : Around) (op : CmpOp) (p q r : PV) : Prop where
  run : ∀ (X : Addr → Prop) (s : Shared) (a b : Value) (Q : Value → Shared → Prop) (E : Value → Shared → Prop), (∀ a, X a → ∃ o, s.heap.get? a = some o) → Rep X s.heap p a → Rep X s.heap q b →
    (∀ v s', Keeps s s' → Rep X s'.heap r v → Q v s') → wpAny (model prog w) A (compareOp op a b) Q E s

theorem ev_bin {l r : Expr} {op : Operator} {pos : Pos} {p q x : PV} (hl : Ev prog w τ A env ρ l p) (hr : Ev prog w τ A env ρ r q) (hb : Bo prog w A op p q x) :
    Ev prog w τ A env ρ (.BinOp l op r pos) x := .mk fun X h₀ own s Q E F hQ =>
  wpAny_BinOp (hl.run X h₀ own s _ E F fun a s₁ k₁ r₁ => hr.run X h₀ own s₁ _ E (F.stay (Keepsl k₁)) fun b s₂ k₂ r₂ =>
    hb.run X s₂ a b Q E (F.stay (Keepsl (ktrans k₁ k₂))).xs (r₁.stay (Keepsl k₂)) r₂ fun v s' k r => hQ v s' (ktrans k₁ (ktrans k₂ k)) r)

theorem ev_cmp {l r : Expr} {op : CmpOp} {pos : Pos} {p q x : PV} (hl : Ev prog w τ A env ρ l p) (hr : Ev prog w τ A env ρ r q) (hb : Co prog w A op p q x) (hm : behindInMarks op r = false := by rfl) :
    Ev prog w τ A env ρ (.Compare l [op] [r] pos) x := .mk fun X h₀ own s Q E F hQ =>
  wpAny_Compare1 (hl.run X h₀ own s _ E F fun a s₁ k₁ r₁ => hr.run X h₀ own s₁ _ E (F.stay (Keepsl k₁)) fun b s₂ k₂ r₂ =>
    hb.run X s₂ a b Q E (F.stay (Keepsl (ktrans k₁ k₂))).xs (r₁.stay (Keepsl k₂)) r₂ fun v s' k r => hQ v s' (ktrans k₁ (ktrans k₂ k)) r) hm

theorem ev_local {x : Str} {pos : Pos} {p : PV} (hρ : ρ.lookup x = some p) (hk : env.kindOf x = some .local) (hd : (x == ("__debug__" : Str)) = false := by decide) :
    Ev prog w τ A env ρ (.Name x pos) p := .mk fun X h₀ own s Q E F hQ => by
  obtain ⟨m, n, H⟩ := F.L
  obtain ⟨v, e, r⟩ := H x p hρ hk
  exact wpAny_Name (wpAny_loadName_local F.fn hk n e (hQ v s (krefl s) r)) hd

theorem ev_cell {x : Str} {pos : Pos} {p : PV} (hρ : ρ.lookup x = some p) (hk : env.kindOf x = some .cell) (hd : (x == ("__debug__" : Str)) = false := by decide) :
    Ev prog w τ A env ρ (.Name x pos) p := .mk fun X h₀ own s Q E F hQ => by
  obtain ⟨c, v, e, hc, r⟩ := F.C x p hρ (.inl hk)
  exact wpAny_Name (wpAny_loadName_cell F.fn hk e hc (hQ v s (krefl s) r)) hd

theorem ev_free {x : Str} {pos : Pos} {p : PV} (hρ : ρ.lookup x = some p) (hk : env.kindOf x = some .free) (hc : (x == ("__classdict__" : Str)) = false := by decide) (hd : (x == ("__debug__" : Str)) = false := by decide) :
    Ev prog w τ A env ρ (.Name x pos) p := .mk fun X h₀ own s Q E F hQ => by
  obtain ⟨c, v, e, hc', r⟩ := F.C x p hρ (.inr hk)
  exact wpAny_Name (wpAny_loadName_free F.fn hk e hc' (hQ v s (krefl s) r) hc) hd

theorem ev_int {i : Int} {k : Nat} {pos : Pos} : Ev prog w τ A env ρ (.Constant (.int i) k pos) (.int i) := .mk fun X h₀ own s Q E F hQ =>
  wpAny_Constant_int (hQ _ _ (ktok s _) rep_int)
theorem ev_str {x : Str} {k : Nat} {pos : Pos} : Ev prog w τ A env ρ (.Constant (.str x) k pos) (.str x) := .mk fun X h₀ own s Q E F hQ =>
  wpAny_Constant_str (hQ _ _ (ktok s _) rep_str)
theorem ev_bool {b : Bool} {k : Nat} {pos : Pos} : Ev prog w τ A env ρ (.Constant (.bool b) k pos) (.bool b) := .mk fun X h₀ own s Q E F hQ =>
  wpAny_Constant_bool (hQ _ _ (krefl s) rep_bool)
theorem ev_none {k : Nat} {pos : Pos} : Ev prog w τ A env ρ (.Constant .none k pos) .none := .mk fun X h₀ own s Q E F hQ =>
  wpAny_Constant_none (hQ _ _ (krefl s) rep_none)

theorem bo_add {a b : Int} : Bo prog w A .Add (.int a) (.int b) (.int (a + b)) := .mk fun X s _ _ Q E hX ra rb hQ => by
  obtain ⟨t, rfl⟩ := ra.int; obtain ⟨u, rfl⟩ := rb.int
  exact add_int (hQ _ _ (ktok s _) rep_int)
theorem bo_sub {a b : Int} : Bo prog w A .Sub (.int a) (.int b) (.int (a - b)) := .mk fun X s _ _ Q E hX ra rb hQ => by
  obtain ⟨t, rfl⟩ := ra.int; obtain ⟨u, rfl⟩ := rb.int
  exact sub_int (hQ _ _ (ktok s _) rep_int)
theorem bo_mod {a b : Int} (hb : b ≠ 0) : Bo prog w A .Mod (.int a) (.int b) (.int (a.fmod b)) := .mk fun X s _ _ Q E hX ra rb hQ => by
  obtain ⟨t, rfl⟩ := ra.int; obtain ⟨u, rfl⟩ := rb.int
  exact mod_int' hb (hQ _ _ (ktok s _) rep_int)
theorem bo_fdiv {a b : Int} (hb : b ≠ 0) (hp : Builtin.divisionGoesByPylong a b = false) : Bo prog w A .FloorDiv (.int a) (.int b) (.int (a.fdiv b)) := .mk fun X s _ _ Q E hX ra rb hQ => by
  obtain ⟨t, rfl⟩ := ra.int; obtain ⟨u, rfl⟩ := rb.int
  exact floordiv_int hb (hQ _ _ (ktok s _) rep_int) (.inl hp)
theorem bo_cat {x y : Str} (hl : x.length + y.length ≤ sizeLine) : Bo prog w A .Add (.str x) (.str y) (.str (x ++ y)) := .mk fun X s _ _ Q E hX ra rb hQ => by
  obtain ⟨t, rfl⟩ := ra.str; obtain ⟨u, rfl⟩ := rb.str
  exact add_str (fun t' tk => hQ _ _ (ktok s _) rep_str) hl

end
end Mine

/-! V2 -/
namespace Mine
set_option linter.unusedVariables false
section
variable {prog : Program} {w : World} {τ : TopI} {A : Around} {env : Env} {ρ : List (Str × PV)}

/-- a list of expressions, one after the other -/
structure EvL (prog : Program) (w : World) (τ : TopI) (A : Around) (env : Env) (ρ : List (Str × PV)) (es : List Expr) (ps : List PV) : Prop where
  run : ∀ (X : Addr → Prop) (pos : Pos) (h₀ : Heap) (own : List Str) (s : Shared) (Q : List Value → Shared → Prop) (E : Value → Shared → Prop), FI X τ h₀ own env ρ s.heap →
    (∀ vs s', Keeps s s' → RepL X s'.heap ps vs → Q vs s') → wpAny (model prog w) A (spliced (backTo pos (starEach es env))) Q E s

theorem evl_nil : EvL prog w τ A env ρ [] [] := .mk fun X pos h₀ own s Q E F hQ => args_nil (hQ [] s (krefl s) .nil)
theorem evl_cons {e : Expr} {es : List Expr} {p : PV} {ps : List PV} (he : Ev prog w τ A env ρ e p) (hs : EvL prog w τ A env ρ es ps)
    (hst : starEach (e :: es) env = (false, eval e env) :: starEach es env := by rfl) : EvL prog w τ A env ρ (e :: es) (p :: ps) := .mk fun X pos h₀ own s Q E F hQ =>
  args_cons (he.run X h₀ own s _ E F fun v s₁ k₁ r₁ => hs.run X pos h₀ own s₁ _ E (F.stay (Keepsl k₁)) fun vs s₂ k₂ r₂ => hQ _ s₂ (ktrans k₁ k₂) (.cons (r₁.stay (Keepsl k₂)) r₂)) hst

/-- a call, its arguments at hand -/
structure Ca (prog : Program) (w : World) (τ : TopI) (A : Around) (f : Value) (ps : List PV) (r : PV) : Prop where
  run : ∀ (X : Addr → Prop) (s : Shared) (vs : List Value) (Q : Value → Shared → Prop) (E : Value → Shared → Prop), τ.T s.heap → (∀ a, X a → ∃ o, s.heap.get? a = some o) → RepL X s.heap ps vs →
    (∀ v s', Keeps s s' → Rep X s'.heap r v → Q v s') → wpAny (model prog w) A (call f vs) Q E s

theorem ca1 {f : Value} {p r : PV} (H : ∀ (X : Addr → Prop) (s : Shared) (a : Value) (Q : Value → Shared → Prop) (E : Value → Shared → Prop), τ.T s.heap → (∀ a, X a → ∃ o, s.heap.get? a = some o) → Rep X s.heap p a →
    (∀ v s', Keeps s s' → Rep X s'.heap r v → Q v s') → wpAny (model prog w) A (call f [a]) Q E s) : Ca prog w τ A f [p] r := .mk fun X s vs Q E T hX r hQ => by
  unfold RepL at r
  obtain ⟨v, vs', rfl, hp, hr⟩ := r
  unfold RepL at hr; subst hr
  exact H X s v Q E T hX hp hQ
theorem ca2 {f : Value} {p q r : PV} (H : ∀ (X : Addr → Prop) (s : Shared) (a b : Value) (Q : Value → Shared → Prop) (E : Value → Shared → Prop), τ.T s.heap → (∀ a, X a → ∃ o, s.heap.get? a = some o) → Rep X s.heap p a → Rep X s.heap q b →
    (∀ v s', Keeps s s' → Rep X s'.heap r v → Q v s') → wpAny (model prog w) A (call f [a, b]) Q E s) : Ca prog w τ A f [p, q] r := .mk fun X s vs Q E T hX r hQ => by
  unfold RepL at r
  obtain ⟨v, vs', rfl, hp, hr⟩ := r
  unfold RepL at hr
  obtain ⟨u, us, rfl, hq, hr⟩ := hr
  unfold RepL at hr; subst hr
  exact H X s v u Q E T hX hp hq hQ

theorem name_builtin {x : Str} {pos : Pos} {f : Value} {X : Addr → Prop} {h₀ : Heap} {own : List Str} {s : Shared} {Q : Value → Shared → Prop} {E : Value → Shared → Prop} (F : FI X τ h₀ own env ρ s.heap)
    (hk : env.kindOf x = some .globalImplicit) (hm : τ.mg x = none) (hb : bootBuiltins x = some f) (hn : x ≠ "__name__") (h : Q f s) (hd : (x == ("__debug__" : Str)) = false := by decide) :
    wpAny (model prog w) A (eval (.Name x pos) env) Q E s :=
  Calls.Name_function_global F.fn hk (Calls.loadGlobal_builtin (F.glob ▸ τ.g _ F.tt) hm (F.blt ▸ τ.b _ F.tt) ((τ.blt x hn).trans hb) h) hd
theorem name_global {x : Str} {pos : Pos} {f : Value} {X : Addr → Prop} {h₀ : Heap} {own : List Str} {s : Shared} {Q : Value → Shared → Prop} {E : Value → Shared → Prop} (F : FI X τ h₀ own env ρ s.heap)
    (hk : env.kindOf x = some .globalImplicit) (hm : τ.mg x = some f) (h : Q f s) (hd : (x == ("__debug__" : Str)) = false := by decide) :
    wpAny (model prog w) A (eval (.Name x pos) env) Q E s :=
  Calls.Name_function_global F.fn hk (Calls.loadGlobal_global (F.glob ▸ τ.g _ F.tt) hm h) hd

theorem ev_global_str {x y : Str} {pos : Pos} {t : Tok} (hk : env.kindOf x = some .globalImplicit) (hm : τ.mg x = some (.str y t)) (hd : (x == ("__debug__" : Str)) = false := by decide) :
    Ev prog w τ A env ρ (.Name x pos) (.str y) := .mk fun X h₀ own s Q E F hQ => name_global F hk hm (hQ _ s (krefl s) rep_str) hd

theorem ev_builtin {x : Str} {np pos : Pos} {id : String} {e : Expr} {es : List Expr} {ps : List PV} {r : PV} (hl : EvL prog w τ A env ρ (e :: es) ps) (hc : Ca prog w τ A (.builtin id) ps r)
    (hk : env.kindOf x = some .globalImplicit) (hm : τ.mg x = none) (hb : bootBuiltins x = some (.builtin id)) (hn : x ≠ "__name__")
    (he : starEach (e :: es) env = (false, eval e env) :: starEach es env := by rfl) (hplain : (backTo pos (starEach es env)).any (·.1) = false := by rfl) (hd : (x == ("__debug__" : Str)) = false := by decide) :
    Ev prog w τ A env ρ (.Call (.Name x np) (e :: es) [] pos) r := .mk fun X h₀ own s Q E F hQ =>
  wpAny_Call_NameR (name_builtin F hk hm hb hn (callWith_builtin1 (hl.run X pos h₀ own s _ E F fun vs s₁ k₁ r₁ =>
    hc.run X s₁ vs Q E (τ.stable _ _ F.tt (Keepsl k₁)) (F.stay (Keepsl k₁)).xs r₁ fun v s₂ k₂ r₂ => hQ v s₂ (ktrans k₁ k₂) r₂) he hplain) hd)

theorem callWith_typeE {pos : Pos} {T : String} {e : Expr} {rest : List Expr} {s : Shared} {Q : Value → Shared → Prop} {E : Value → Shared → Prop}
    (h : wpAny (model prog w) A (spliced (backTo pos (starEach (e :: rest) env))) (fun vs s₁ => wpAny (model prog w) A (call (.type T) vs) Q E s₁) E s)
    (he : starEach (e :: rest) env = (false, eval e env) :: starEach rest env := by rfl) (hplain : (backTo pos (starEach rest env)).any (·.1) = false := by rfl) :
    wpAny (model prog w) A (callWith pos (.type T) [] (backTo pos (starEach (e :: rest) env)) []) Q E s := by
  rw [he] at h ⊢
  exact PySem.callWith_type (by show (false || (backTo pos (starEach rest env)).any (·.1)) = false; rw [hplain]; rfl) (Calls.evalArgs_plain h)

theorem ev_type {x : Str} {np pos : Pos} {id : String} {e : Expr} {es : List Expr} {ps : List PV} {r : PV} (hl : EvL prog w τ A env ρ (e :: es) ps) (hc : Ca prog w τ A (.type id) ps r)
    (hk : env.kindOf x = some .globalImplicit) (hm : τ.mg x = none) (hb : bootBuiltins x = some (.type id)) (hn : x ≠ "__name__")
    (he : starEach (e :: es) env = (false, eval e env) :: starEach es env := by rfl) (hplain : (backTo pos (starEach es env)).any (·.1) = false := by rfl) (hd : (x == ("__debug__" : Str)) = false := by decide) :
    Ev prog w τ A env ρ (.Call (.Name x np) (e :: es) [] pos) r := .mk fun X h₀ own s Q E F hQ =>
  wpAny_Call_NameR (name_builtin F hk hm hb hn (callWith_typeE (hl.run X pos h₀ own s _ E F fun vs s₁ k₁ r₁ =>
    hc.run X s₁ vs Q E (τ.stable _ _ F.tt (Keepsl k₁)) (F.stay (Keepsl k₁)).xs r₁ fun v s₂ k₂ r₂ => hQ v s₂ (ktrans k₁ k₂) r₂) he hplain) hd)

/-- a function of the text's -/
def IsFn (τ : TopI) (a : Addr) : Prop := ∀ h, τ.T h → ∃ o fd, h.get? a = some o ∧ o.data = .func fd

theorem ev_fn {x : Str} {np pos : Pos} {a : Addr} {e : Expr} {es : List Expr} {ps : List PV} {r : PV} (hl : EvL prog w τ A env ρ (e :: es) ps) (hc : Ca prog w τ A (.ref a) ps r)
    (hk : env.kindOf x = some .globalImplicit) (hm : τ.mg x = some (.ref a)) (hf : IsFn τ a)
    (he : starEach (e :: es) env = (false, eval e env) :: starEach es env := by rfl) (hd : (x == ("__debug__" : Str)) = false := by decide) :
    Ev prog w τ A env ρ (.Call (.Name x np) (e :: es) [] pos) r := .mk fun X h₀ own s Q E F hQ => by
  obtain ⟨o, fd, ho, hdat⟩ := hf _ F.tt
  exact wpAny_Call_NameR (name_global F hk hm (callWith_def (o := o) (fd := fd) hdat (hl.run X pos h₀ own s _ E F fun vs s₁ k₁ r₁ =>
    ⟨Keepsl k₁ _ _ ho, hc.run X s₁ vs Q E (τ.stable _ _ F.tt (Keepsl k₁)) (F.stay (Keepsl k₁)).xs r₁ fun v s₂ k₂ r₂ => hQ v s₂ (ktrans k₁ k₂) r₂⟩) he) hd)

/-- a method of a text's or a list's -/
theorem ev_meth {o : Expr} {name : Str} {apos pos : Pos} {T id : String} {e : Expr} {es : List Expr} {p : PV} {ps : List PV} {r : PV}
    (ho : Ev prog w τ A env ρ o p) (hl : EvL prog w τ A env ρ (e :: es) ps) (hc : Ca prog w τ A (.builtin id) (p :: ps) r)
    (hT : ∀ (X : Addr → Prop) (s : Shared) v, Rep X s.heap p v → s.TypeIs v T ∧ ∀ a : Addr, v = .ref a → ∃ ob, s.heap.get? a = some ob ∧ ob.dict = none)
    (pa : PlainAttrs T) (slot : Slot T name id) (ty : typeOf (.builtin id) = pure (.type "method_descriptor"))
    (hab : attributeBase o name env (eval o env) = eval o env := by rfl) (hpos : (apos.endLine == pos.line) = true := by rfl)
    (hargs : (((backTo pos (starEach (e :: es) env)).all fun x => !x.fst) && (backToKw pos (keywordEach [] env)).all (fun x => x.fst.isSome) && decide (((e :: es).length + ([] : List Keyword).length + if ([] : List Keyword).isEmpty = true then 0 else 1) < 30)) = true := by rfl)
    (he : starEach (e :: es) env = (false, eval e env) :: starEach es env := by rfl) (hplain : (backTo pos (starEach es env)).any (·.1) = false := by rfl) :
    Ev prog w τ A env ρ (.Call (.Attribute o name apos) (e :: es) [] pos) r := .mk fun X h₀ own s Q E F hQ =>
  wpAny_Call_method hab hargs hpos pa slot ty (ho.run X h₀ own s _ E F fun v s₁ k₁ r₁ => ⟨(hT X s₁ v r₁).1, (hT X s₁ v r₁).2, callWith_method1
    (hl.run X pos h₀ own s₁ _ E (F.stay (Keepsl k₁)) fun vs s₂ k₂ r₂ => hc.run X s₂ (v :: vs) Q E (τ.stable _ _ F.tt (Keepsl (ktrans k₁ k₂))) (F.stay (Keepsl (ktrans k₁ k₂))).xs (.cons (r₁.stay (Keepsl k₂)) r₂)
      fun u s₃ k₃ r₃ => hQ u s₃ (ktrans k₁ (ktrans k₂ k₃)) r₃) he hplain⟩)
theorem ev_meth0 {o : Expr} {name : Str} {apos pos : Pos} {T id : String} {p : PV} {r : PV}
    (ho : Ev prog w τ A env ρ o p) (hc : Ca prog w τ A (.builtin id) [p] r)
    (hT : ∀ (X : Addr → Prop) (s : Shared) v, Rep X s.heap p v → s.TypeIs v T ∧ ∀ a : Addr, v = .ref a → ∃ ob, s.heap.get? a = some ob ∧ ob.dict = none)
    (pa : PlainAttrs T) (slot : Slot T name id) (ty : typeOf (.builtin id) = pure (.type "method_descriptor"))
    (hab : attributeBase o name env (eval o env) = eval o env := by rfl) (hpos : (apos.endLine == pos.line) = true := by rfl) :
    Ev prog w τ A env ρ (.Call (.Attribute o name apos) [] [] pos) r := .mk fun X h₀ own s Q E F hQ =>
  wpAny_Call_method hab rfl hpos pa slot ty (ho.run X h₀ own s _ E F fun v s₁ k₁ r₁ => ⟨(hT X s₁ v r₁).1, (hT X s₁ v r₁).2, callWith_method0
    (hc.run X s₁ [v] Q E (τ.stable _ _ F.tt (Keepsl k₁)) (F.stay (Keepsl k₁)).xs (.cons r₁ .nil) fun u s₃ k₃ r₃ => hQ u s₃ (ktrans k₁ k₃) r₃)⟩)

theorem str_is (x : Str) (X : Addr → Prop) (s : Shared) (v : Value) (r : Rep X s.heap (.str x) v) : s.TypeIs v "str" ∧ ∀ a : Addr, v = .ref a → ∃ ob, s.heap.get? a = some ob ∧ ob.dict = none := by
  obtain ⟨t, rfl⟩ := r.str
  exact ⟨typeIs_str _ _ _, fun a e => by cases e⟩

theorem lt63 {n : Nat} (h : n ≤ sizeLine) : (n : Int) < 2 ^ 63 := by
  have : (sizeLine : Nat) = 16777216 := by decide
  omega
/-! built-ins -/
theorem ca_len_str {x : Str} (hx : x.length ≤ sizeLine) : Ca prog w τ A (.builtin "len") [.str x] (.int x.length) := ca1 fun X s a Q E _ hX r hQ => by
  obtain ⟨t, rfl⟩ := r.str
  exact P.len_str (Int.not_le.mpr (lt63 hx)) (hQ _ _ (ktok s _) rep_int)
theorem ca_len_list {l : List PV} (hx : l.length ≤ sizeLine) : Ca prog w τ A (.builtin "len") [.list l] (.int l.length) := ca1 fun X s a Q E _ hX r hQ => by
  obtain ⟨a, vs, rfl, ⟨hl, hXa⟩, hr⟩ := r.list
  have e := hr.length
  refine Calls.call_len_list hl.isList (by rw [List.size_toArray, e]; exact lt63 hx) ?_
  rw [List.size_toArray, e]
  exact hQ _ _ (ktok s _) rep_int
theorem ca_ord {c : Nat} : Ca prog w τ A (.builtin "ord") [.str ⟨#[c]⟩] (.int c) := ca1 fun X s a Q E _ hX r hQ => by
  obtain ⟨t, rfl⟩ := r.str
  exact P.ord_of_char (hQ _ _ (ktok s _) rep_int)
theorem ca_chr {i : Int} (h : (decide (i < 0) || decide (i > 1114111)) = false) : Ca prog w τ A (.builtin "chr") [.int i] (.str ⟨#[i.toNat]⟩) := ca1 fun X s a Q E _ hX r hQ => by
  obtain ⟨t, rfl⟩ := r.int
  exact P.chr_of_int h (hQ _ _ (ktok s _) rep_str)
theorem ca_startswith {x y : Str} : Ca prog w τ A (.builtin "str.startswith") [.str x, .str y] (.bool (Txt.startswith x y)) := ca2 fun X s a b Q E _ hX r r' hQ => by
  obtain ⟨t, rfl⟩ := r.str
  obtain ⟨u, rfl⟩ := r'.str
  exact SC.startswith (hQ _ _ (krefl s) rep_bool)
theorem ca_endswith {x y : Str} : Ca prog w τ A (.builtin "str.endswith") [.str x, .str y] (.bool (Txt.endswith x y)) := ca2 fun X s a b Q E _ hX r r' hQ => by
  obtain ⟨t, rfl⟩ := r.str
  obtain ⟨u, rfl⟩ := r'.str
  exact SC.endswith (hQ _ _ (krefl s) rep_bool)

theorem RepL.strs {X : Addr → Prop} {h : Heap} : ∀ {xs : List Str} {vs : List Value}, RepL X h (xs.map .str) vs → ∃ l : List (Str × Tok), strValues l = vs ∧ l.map (·.1) = xs
  | [], vs, r => by
    rw [List.map_nil] at r
    unfold RepL at r; subst r; exact ⟨[], rfl, rfl⟩
  | x :: xs, vs, r => by
    rw [List.map_cons] at r
    unfold RepL at r
    obtain ⟨v, vs', rfl, hp, hr⟩ := r
    obtain ⟨t, rfl⟩ := hp.str
    obtain ⟨l, e, e'⟩ := RepL.strs hr
    refine ⟨(x, t) :: l, ?_, by rw [List.map_cons, e']⟩
    rw [← e]; rfl
theorem ca_join {x : Str} {xs : List Str} (hok : JoinOk x xs = true) : Ca prog w τ A (.builtin "str.join") [.str x, .list (xs.map .str)] (.str (Txt.join x xs)) := ca2 fun X s a b Q E _ hX r r' hQ => by
  obtain ⟨t, rfl⟩ := r.str
  obtain ⟨D, vs, rfl, ⟨hl, hXa⟩, hr⟩ := r'.list
  obtain ⟨l, rfl, e⟩ := hr.strs
  exact SC.join hl.isList e hok fun t' k => hQ _ _ (ktok s _) rep_str

theorem RepL.ints {X : Addr → Prop} {h : Heap} : ∀ {xs : List Int} {vs : List Value}, RepL X h (xs.map .int) vs → IntsAre vs xs
  | [], vs, r => by
    rw [List.map_nil] at r
    unfold RepL at r; subst r; exact .nil
  | x :: xs, vs, r => by
    rw [List.map_cons] at r
    unfold RepL at r
    obtain ⟨v, vs', rfl, hp, hr⟩ := r
    obtain ⟨t, rfl⟩ := hp.int
    exact .cons _ _ (RepL.ints hr)
end
end Mine

/-! V3 -/
namespace Mine
set_option linter.unusedVariables false
section
variable {prog : Program} {w : World} {τ : TopI} {A : Around} {env : Env} {ρ : List (Str × PV)}

/-- an item -/
structure Gi (prog : Program) (w : World) (A : Around) (p q r : PV) : Prop where
  run : ∀ (X : Addr → Prop) (s : Shared) (a b : Value) (Q : Value → Shared → Prop) (E : Value → Shared → Prop), Rep X s.heap p a → Rep X s.heap q b →
    (∀ v s', Keeps s s' → Rep X s'.heap r v → Q v s') → ∃ T id, s.TypeIs a T ∧ typeLookup (.type T) "__getitem__" = pure (some (.builtin id)) ∧ wpAny (model prog w) A (getItem a b) Q E s

theorem ev_sub {value slice : Expr} {pos : Pos} {p q r : PV} (hv : Ev prog w τ A env ρ value p) (hi : Ev prog w τ A env ρ slice q) (hg : Gi prog w A p q r)
    (hs : ∀ o i, subscripted slice false o i = operate [o, i] (getItem o i) := by intro _ _; rfl) : Ev prog w τ A env ρ (.Subscript value slice pos) r := .mk fun X h₀ own s Q E F hQ =>
  Subscript_ (hv.run X h₀ own s _ E F fun a s₁ k₁ r₁ => hi.run X h₀ own s₁ _ E (F.stay (Keepsl k₁)) fun b s₂ k₂ r₂ => by
    obtain ⟨T, id, hT, hl, hw⟩ := hg.run X s₂ a b Q E (r₁.stay (Keepsl k₂)) r₂ fun v s' k r => hQ v s' (ktrans k₁ (ktrans k₂ k)) r
    exact tail_any hT hl hw (hs a b))

theorem gi_list {l : List PV} {i : Int} {r : PV} (h0 : 0 ≤ i) (h1 : i < 2 ^ 63) (hx : l[i.toNat]? = some r) : Gi prog w A (.list l) (.int i) r := .mk fun X s a b Q E ra rb hQ => by
  obtain ⟨a, vs, rfl, ⟨hl, hXa⟩, hr⟩ := ra.list
  obtain ⟨t, rfl⟩ := rb.int
  obtain ⟨v, hv, hp⟩ := hr.get hx
  exact ⟨_, _, hl.isList.typeIs, slot_list_getitem.lookup, wpAny_getItem_list hl.isList h0 h1 (x := v) (by simpa using hv) (hQ v s (krefl s) hp)⟩
theorem gi_list_neg {l : List PV} {i : Int} {r : PV} (h0 : i < 0) (h1 : -(l.length : Int) ≤ i) (h2 : -2 ^ 63 ≤ i) (hx : l[(i + l.length).toNat]? = some r) : Gi prog w A (.list l) (.int i) r := .mk fun X s a b Q E ra rb hQ => by
  obtain ⟨a, vs, rfl, ⟨hl, hXa⟩, hr⟩ := ra.list
  obtain ⟨t, rfl⟩ := rb.int
  obtain ⟨v, hv, hp⟩ := hr.get hx
  have e := hr.length
  exact ⟨_, _, hl.isList.typeIs, slot_list_getitem.lookup, wpAny_getItem_list_neg hl.isList h0 (by rw [List.size_toArray, e]; exact h1) h2 (x := v) (by rw [List.size_toArray, e]; simpa using hv) (hQ v s (krefl s) hp)⟩
theorem gi_str {x : Str} {i : Int} (hr : fitsSsize i = true) (hin : (Txt.charAt x i).isSome = true) : Gi prog w A (.str x) (.int i) (.str (Txt.item x i)) := .mk fun X s a b Q E ra rb hQ => by
  obtain ⟨t, rfl⟩ := ra.str
  obtain ⟨u, rfl⟩ := rb.int
  exact ⟨_, _, typeIs_str _ _ _, F.slot_str_getitem.lookup, SB.getItem hr hin (hQ _ _ (ktok s _) rep_str)⟩


/-! lists and tuples laid -/
theorem xnew {X : Addr → Prop} {h : Heap} (hX : ∀ a, X a → ∃ o, h.get? a = some o) : ¬ X h.objs.size := fun x => by
  obtain ⟨o, e⟩ := hX _ x
  exact Nat.lt_irrefl _ (Heap.lt_size e)
theorem rep_new_list {X : Addr → Prop} {h : Heap} {ps : List PV} {vs : List Value} (hX : ∀ a, X a → ∃ o, h.get? a = some o) (r : RepL X h ps vs) : Rep X (h.push { cls := .type "list", data := .seq vs.toArray }) (.list ps) (.ref h.objs.size) :=
  rep_list ⟨0, Heap.get?_push_size _ rfl⟩ (xnew hX) (r.stay (stay_push _ _))
theorem rep_new_tup {X : Addr → Prop} {h : Heap} {ps : List PV} {vs : List Value} (hX : ∀ a, X a → ∃ o, h.get? a = some o) (r : RepL X h ps vs) : Rep X (h.push { cls := .type "tuple", data := .seq vs.toArray }) (.tup ps) (.ref h.objs.size) :=
  rep_tup ⟨_, Heap.get?_push_size _ rfl, rfl, 0, rfl⟩ (xnew hX) (r.stay (stay_push _ _))
theorem ev_list {es : List Expr} {pos : Pos} {ps : List PV} (hl : EvL prog w τ A env ρ es ps) (hsz : ps.length ≤ sizeLine) : Ev prog w τ A env ρ (.List es pos) (.list ps) := .mk fun X h₀ own s Q E F hQ =>
  wpAny_List_spliced (hl.run X pos h₀ own s _ E F fun vs s₁ k₁ r₁ => ⟨by rw [r₁.length]; exact hsz, hQ _ _ (ktrans k₁ (kpush _ _)) (rep_new_list (F.stay (Keepsl k₁)).xs r₁)⟩)
theorem ev_tup {es : List Expr} {k : Nat} {pos : Pos} {ps : List PV} (hl : EvL prog w τ A env ρ es ps) (hsz : ps.length ≤ sizeLine) : Ev prog w τ A env ρ (.Tuple es k pos) (.tup ps) := .mk fun X h₀ own s Q E F hQ =>
  wpAny_Tuple_spliced (hl.run X pos h₀ own s _ E F fun vs s₁ k₁ r₁ => ⟨by rw [r₁.length]; exact hsz, hQ _ _ (ktrans k₁ (kpush _ _)) (rep_new_tup (F.stay (Keepsl k₁)).xs r₁)⟩)
theorem bo_lists {l m : List PV} (hsz : l.length + m.length ≤ sizeLine) : Bo prog w A .Add (.list l) (.list m) (.list (l ++ m)) := .mk fun X s _ _ Q E hX ra rb hQ => by
  obtain ⟨a, vs, rfl, ⟨⟨n, hl⟩, hXa⟩, hr⟩ := ra.list
  obtain ⟨b, us, rfl, ⟨⟨n', hl'⟩, hXb⟩, hr'⟩ := rb.list
  have e1 := hr.length
  have e2 := hr'.length
  refine P.add_list (n := n) (n2 := n') hl hl' (hQ _ _ (kpush _ _) ?_) (by rw [List.size_toArray, List.size_toArray, e1, e2]; exact hsz)
  have : vs.toArray ++ us.toArray = (vs ++ us).toArray := by simp
  rw [this]
  exact rep_new_list hX (hr.append hr')

theorem bo_mul {a b : Int} (hm : IntMulOk a b) : Bo prog w A .Mult (.int a) (.int b) (.int (a * b)) := .mk fun X s _ _ Q E hX ra rb hQ => by
  obtain ⟨t, rfl⟩ := ra.int; obtain ⟨u, rfl⟩ := rb.int
  exact PyProof.Rows.mul_int (hQ _ _ (ktok s _) rep_int) hm
theorem bo_pow {a b : Int} (hn : 0 ≤ b) (hn2 : b ≤ 1000000) (ha : a.natAbs < 2 ^ 64) : Bo prog w A .Pow (.int a) (.int b) (.int (a ^ b.toNat)) := .mk fun X s _ _ Q E hX ra rb hQ => by
  obtain ⟨t, rfl⟩ := ra.int; obtain ⟨u, rfl⟩ := rb.int
  exact pow_int_small hn hn2 ha (hQ _ _ (ktok s _) rep_int)
theorem bo_and {a b : Int} : Bo prog w A .BitAnd (.int a) (.int b) (.int (Builtin.bitAnd a b)) := .mk fun X s _ _ Q E hX ra rb hQ => by
  obtain ⟨t, rfl⟩ := ra.int; obtain ⟨u, rfl⟩ := rb.int
  exact and_int (hQ _ _ (ktok s _) rep_int)

theorem co_eq {a b : Int} : Co prog w A .Eq (.int a) (.int b) (.bool (a == b)) := .mk fun X s _ _ Q E hX ra rb hQ => by
  obtain ⟨t, rfl⟩ := ra.int; obtain ⟨u, rfl⟩ := rb.int
  exact eq_int (hQ _ _ (krefl s) rep_bool)
theorem co_ne {a b : Int} : Co prog w A .NotEq (.int a) (.int b) (.bool (a != b)) := .mk fun X s _ _ Q E hX ra rb hQ => by
  obtain ⟨t, rfl⟩ := ra.int; obtain ⟨u, rfl⟩ := rb.int
  exact ne_int (hQ _ _ (krefl s) rep_bool)
theorem co_lt {a b : Int} : Co prog w A .Lt (.int a) (.int b) (.bool (decide (a < b))) := .mk fun X s _ _ Q E hX ra rb hQ => by
  obtain ⟨t, rfl⟩ := ra.int; obtain ⟨u, rfl⟩ := rb.int
  exact lt_int (hQ _ _ (krefl s) rep_bool)
theorem co_le {a b : Int} : Co prog w A .LtE (.int a) (.int b) (.bool (decide (a ≤ b))) := .mk fun X s _ _ Q E hX ra rb hQ => by
  obtain ⟨t, rfl⟩ := ra.int; obtain ⟨u, rfl⟩ := rb.int
  exact le_int (hQ _ _ (krefl s) rep_bool)
theorem co_gt {a b : Int} : Co prog w A .Gt (.int a) (.int b) (.bool (decide (b < a))) := .mk fun X s _ _ Q E hX ra rb hQ => by
  obtain ⟨t, rfl⟩ := ra.int; obtain ⟨u, rfl⟩ := rb.int
  exact gt_int (hQ _ _ (krefl s) rep_bool)
theorem co_ge {a b : Int} : Co prog w A .GtE (.int a) (.int b) (.bool (decide (b ≤ a))) := .mk fun X s _ _ Q E hX ra rb hQ => by
  obtain ⟨t, rfl⟩ := ra.int; obtain ⟨u, rfl⟩ := rb.int
  exact ge_int (hQ _ _ (krefl s) rep_bool)
theorem co_eqs {a b : Str} : Co prog w A .Eq (.str a) (.str b) (.bool (a == b)) := .mk fun X s _ _ Q E hX ra rb hQ => by
  obtain ⟨t, rfl⟩ := ra.str; obtain ⟨u, rfl⟩ := rb.str
  exact eq_str (hQ _ _ (krefl s) rep_bool)
theorem co_isnot {a b : Bool} : Co prog w A .IsNot (.bool a) (.bool b) (.bool (a != b)) := .mk fun X s _ _ Q E hX ra rb hQ => by
  cases ra.bool; cases rb.bool
  refine wpAny_isNot_plain rfl ?_
  have : (!(Value.bool a == Value.bool b)) = (a != b) := by cases a <;> cases b <;> decide
  rw [this]
  exact hQ _ _ (krefl s) rep_bool
theorem co_notin {x y : Str} : Co prog w A .NotIn (.str y) (.str x) (.bool (!Txt.contains x y)) := .mk fun X s _ _ Q E hX ra rb hQ => by
  obtain ⟨t, rfl⟩ := ra.str; obtain ⟨u, rfl⟩ := rb.str
  exact SB.notContains (hQ _ _ (krefl s) rep_bool)

theorem ev_neg {e : Expr} {pos : Pos} {i : Int} (he : Ev prog w τ A env ρ e (.int i)) : Ev prog w τ A env ρ (.UnaryOp .USub e pos) (.int (-i)) := .mk fun X h₀ own s Q E F hQ =>
  wpAny_UnaryOp (he.run X h₀ own s _ E F fun v s₁ k₁ r₁ => by
    obtain ⟨t, rfl⟩ := r₁.int
    exact neg_int (hQ _ _ (ktrans k₁ (ktok _ _)) rep_int))

/-! slices -/
structure EvO (prog : Program) (w : World) (τ : TopI) (A : Around) (env : Env) (ρ : List (Str × PV)) (e : Option Expr) (i : Option Int) : Prop where
  run : ∀ (X : Addr → Prop) (h₀ : Heap) (own : List Str) (s : Shared) (Q : Value → Shared → Prop) (E : Value → Shared → Prop), FI X τ h₀ own env ρ s.heap →
    (∀ v s', Keeps s s' → (match i with | none => v = .none | some k => ∃ t, v = .int k t) → Q v s') → wpAny (model prog w) A (evalPart e env) Q E s
theorem evo_none : EvO prog w τ A env ρ none none := .mk fun X h₀ own s Q E F hQ => wpAny_evalPart_none (hQ _ s (krefl s) rfl)
theorem evo_some {e : Expr} {i : Int} (he : Ev prog w τ A env ρ e (.int i)) : EvO prog w τ A env ρ (some e) (some i) := .mk fun X h₀ own s Q E F hQ =>
  wpAny_evalPart_some (he.run X h₀ own s Q E F fun v s' k r => hQ v s' k r.int)

theorem RepL.map_get {X : Addr → Prop} {h : Heap} {ps : List PV} {vs : List Value} (r : RepL X h ps vs) (a n : Nat) : RepL X h ((ps.drop a).take n) ((vs.drop a).take n) := by
  refine RepL.of_get (by simp [r.length]) fun i p v hp hv => ?_
  rw [List.getElem?_take] at hp hv
  split at hp
  · rename_i hi
    rw [if_pos hi] at hv
    rw [List.getElem?_drop] at hp hv
    obtain ⟨u, hu, hr⟩ := r.get hp
    rw [hu] at hv; cases hv; exact hr
  · cases hp

def sl {α : Type} (l : List α) (lo hi : Option Int) : List α :=
  (l.drop (lo.elim 0 (clipAt l.length))).take (hi.elim l.length (clipAt l.length) - lo.elim 0 (clipAt l.length))

theorem ev_slice_list {value : Expr} {lo hi : Option Expr} {p pos : Pos} {l : List PV} {i j : Option Int} (hv : Ev prog w τ A env ρ value (.list l)) (hlo : EvO prog w τ A env ρ lo i) (hhi : EvO prog w τ A env ρ hi j)
    (hsz : l.length ≤ sizeLine) (ht : ∀ o r, letTemporaryGo value o r = pure () := by intro _ _; rfl) :
    Ev prog w τ A env ρ (.Subscript value (.Slice lo hi none p) pos) (.list (sl l i j)) := .mk fun X h₀ own s Q E F hQ => by
  refine wpAny_Subscript_list_slice (hv.run X h₀ own s _ E F fun a s₁ k₁ r₁ => hlo.run X h₀ own s₁ _ E (F.stay (Keepsl k₁)) fun vl s₂ k₂ r₂ => hhi.run X h₀ own s₂ _ E (F.stay (Keepsl (ktrans k₁ k₂))) fun vu s₃ k₃ r₃ => ?_) ht
  obtain ⟨a, vs, rfl, ⟨hl, hXa⟩, hr⟩ := (r₁.stay (Keepsl (ktrans k₂ k₃))).list
  have e := hr.length
  refine ⟨a, vs.toArray, i, j, rfl, hl.isList, by rw [List.size_toArray, e]; exact hsz, ?_, ?_, ?_⟩
  · cases i with
    | none => simp only at r₂; subst r₂; exact .none
    | some i => obtain ⟨t, rfl⟩ := r₂; exact .int _ _
  · cases j with
    | none => simp only at r₃; subst r₃; exact .none
    | some i => obtain ⟨t, rfl⟩ := r₃; exact .int _ _
  · refine hQ _ _ (ktrans (ktrans k₁ (ktrans k₂ k₃)) ⟨_, s₃.toks, rfl, fun b o e => Heap.get?_push_of_some _ (Heap.get?_push_of_some _ e)⟩) ?_
    rw [slicePick_plain]
    have hz : (s₃.heap.push { cls := .type "slice", data := .fields #[vl, vu, .none] }).objs.size = s₃.heap.objs.size + 1 := Heap.size_push ..
    have := rep_new_list (h := s₃.heap.push { cls := .type "slice", data := .fields #[vl, vu, .none] }) (((F.stay (Keepsl (ktrans k₁ (ktrans k₂ k₃)))).stay (stay_push _ _)).xs) ((hr.map_get (i.elim 0 (clipAt l.length)) (j.elim l.length (clipAt l.length) - i.elim 0 (clipAt l.length))).stay (stay_push _ _))
    rw [hz] at this
    rw [List.size_toArray, e]
    exact this

def slStr (x : Str) (lo hi : Option Int) : Str := ⟨(sl x.cps.toList lo hi).toArray⟩

theorem clip_cast (n : Nat) (i : Int) : max (0 : Int) (min (if i < 0 then i + n else i) n) = (clipAt n i : Nat) := by
  unfold clipAt
  rw [Int.toNat_of_nonneg (by omega)]
theorem strIdx (x : Str) (lo hi : Option Int) :
    (Builtin.Str.strSliceIndices lo hi 1 x.length).filterMap (x.cps[·]?) = sl x.cps.toList lo hi := by
  have e : Builtin.Str.strSliceIndices lo hi 1 x.length = sliceRange ((lo.elim 0 (clipAt x.length) : Nat) : Int) ((hi.elim x.length (clipAt x.length) : Nat) : Int) 1 := by
    unfold Builtin.Str.strSliceIndices
    simp only [show ((1 : Int) > 0) = True from by simp, if_true]
    cases lo <;> cases hi <;> simp only [Option.elim, clip_cast] <;> rfl
  have hb : hi.elim x.length (clipAt x.length) ≤ x.length := by
    cases hi with
    | none => exact Nat.le_refl _
    | some j => simp only [Option.elim]; unfold clipAt; omega
  rw [e, sliceRange_one, List.filterMap_map]
  unfold sl
  have hl : x.cps.toList.length = x.length := by simp [Str.length]
  rw [hl]
  generalize lo.elim 0 (clipAt x.length) = a
  generalize hi.elim x.length (clipAt x.length) = b at hb
  by_cases hab : a ≤ b
  · have h := StrLaws.picks x.cps.toList (b - a) a (by rw [hl]; omega)
    rw [List.filterMap_map] at h
    rw [← h]
    congr 1
    funext k
    simp
  · rw [show b - a = 0 by omega]; rfl

theorem sl_len_le {α : Type} (l : List α) (lo hi : Option Int) : (sl l lo hi).length ≤ l.length := by
  unfold sl
  rw [List.length_take, List.length_drop]; omega
theorem sl_all {α : Type} (l : List α) (lo hi : Option Int) (h : (sl l lo hi).length = l.length) : sl l lo hi = l := by
  unfold sl at h ⊢
  generalize lo.elim 0 (clipAt l.length) = a at h ⊢
  generalize hi.elim l.length (clipAt l.length) = b at h ⊢
  rw [List.length_take, List.length_drop] at h
  cases hn : l.length with
  | zero => have : l = [] := List.eq_nil_of_length_eq_zero hn
            subst this; simp
  | succ n =>
    have ha : a = 0 := by omega
    subst ha
    rw [List.drop_zero, List.take_of_length_le (by omega)]

theorem ev_slice_str {value : Expr} {lo hi : Option Expr} {p pos : Pos} {x : Str} {i j : Option Int} (hv : Ev prog w τ A env ρ value (.str x)) (hlo : EvO prog w τ A env ρ lo i) (hhi : EvO prog w τ A env ρ hi j)
    (hsz : x.length ≤ sizeLine) (ht : ∀ o r, letTemporaryGo value o r = pure () := by intro _ _; rfl) :
    Ev prog w τ A env ρ (.Subscript value (.Slice lo hi none p) pos) (.str (slStr x i j)) := .mk fun X h₀ own s Q E F hQ => by
  refine wpAny_Subscript_str_slice (hv.run X h₀ own s _ E F fun a s₁ k₁ r₁ => hlo.run X h₀ own s₁ _ E (F.stay (Keepsl k₁)) fun vl s₂ k₂ r₂ => hhi.run X h₀ own s₂ _ E (F.stay (Keepsl (ktrans k₁ k₂))) fun vu s₃ k₃ r₃ => ?_) ht
  obtain ⟨t, rfl⟩ := (r₁.stay (Keepsl (ktrans k₂ k₃))).str
  obtain ⟨l', el, hl'⟩ : ∃ l' : Option (Int × Tok), vl = partValue l' ∧ l'.map (·.1) = i := by
    cases i with
    | none => exact ⟨none, r₂, rfl⟩
    | some i => obtain ⟨t, e⟩ := r₂; exact ⟨some (i, t), e, rfl⟩
  obtain ⟨u', eu, hu'⟩ : ∃ l' : Option (Int × Tok), vu = partValue l' ∧ l'.map (·.1) = j := by
    cases j with
    | none => exact ⟨none, r₃, rfl⟩
    | some i => obtain ⟨t, e⟩ := r₃; exact ⟨some (i, t), e, rfl⟩
  refine ⟨x, t, l', u', rfl, el, eu, ?_⟩
  have kk : Keeps s { s₃ with heap := s₃.heap.push { cls := .type "slice", data := .fields #[vl, vu, .none] } } := ktrans (ktrans k₁ (ktrans k₂ k₃)) (kpush _ _)
  have hp : ((slicePicked x l' u' none).filterMap (x.cps[·]?)) = sl x.cps.toList i j := by
    unfold slicePicked
    rw [hl', hu']
    exact strIdx x i j
  have hpl : (slicePicked x l' u' none).length = (sl x.cps.toList i j).length := by
    unfold slicePicked
    rw [hl', hu']
    unfold sl
    have hl : x.cps.toList.length = x.length := by simp [Str.length]
    have e : Builtin.Str.strSliceIndices i j 1 x.length = sliceRange ((i.elim 0 (clipAt x.length) : Nat) : Int) ((j.elim x.length (clipAt x.length) : Nat) : Int) 1 := by
      unfold Builtin.Str.strSliceIndices
      simp only [show ((1 : Int) > 0) = True from by simp, if_true]
      cases i <;> cases j <;> simp only [Option.elim, clip_cast] <;> rfl
    have hb : j.elim x.length (clipAt x.length) ≤ x.length := by
      cases j with
      | none => exact Nat.le_refl _
      | some j => simp only [Option.elim]; unfold clipAt; omega
    show (Builtin.Str.strSliceIndices i j 1 x.length).length = _
    rw [e, sliceRange_one, List.length_map, List.length_range, List.length_take, List.length_drop, hl]
    omega
  unfold sliceMade
  rw [hp, hpl]
  split
  · rename_i hc
    have hc' : (sl x.cps.toList i j).length = x.cps.toList.length := by
      have : (sl x.cps.toList i j).length = x.length := by simpa using hc
      rw [this]; simp [Str.length]
    have : slStr x i j = x := by
      unfold slStr; rw [sl_all _ _ _ hc']
    rw [this] at hQ
    exact hQ _ _ kk rep_str
  · refine ⟨?_, hQ _ _ (ktrans kk (ktok _ _)) rep_str⟩
    show (sl x.cps.toList i j).toArray.size ≤ sizeLine
    rw [List.size_toArray]
    refine Nat.le_trans (sl_len_le _ _ _) ?_
    rw [show x.cps.toList.length = x.length by simp [Str.length]]; exact hsz
end
end Mine

/-! V4 -/
namespace Mine
set_option linter.unusedVariables false
section
variable {prog : Program} {w : World} {τ : TopI} {A : Around} {env : Env} {ρ : List (Str × PV)}

/-- an iterator about to give the items -/
def Wk (X : Addr → Prop) (prog : Program) (w : World) (hb : Heap) (s : Shared) (it : Value) (items : List PV) : Prop :=
  ∃ I fp wr P St, it = .ref I ∧ (∀ A' : Around, A'.handled = none → Walks prog w A' I fp wr items.length P St) ∧ St 0 s.heap ∧ (∀ b ∈ wr, hb.get? b = none) ∧
    (∀ i v, P i v → i < items.length → ∃ p, items[i]? = some p ∧ Rep X hb p v) ∧ (∀ b ∈ fp, ∃ o, s.heap.get? b = some o ∧ (∀ es n, o.data ≠ .dict es n) ∧ ∀ c, o.data ≠ .cell c) ∧
    (∀ i h, St i h → ∀ b ∈ wr, ∀ o, h.get? b = some o → ∀ xs n, o.data ≠ .seq xs n) ∧ ∀ b ∈ fp, X b → hb.get? b = none

structure It (prog : Program) (w : World) (τ : TopI) (A : Around) (env : Env) (ρ : List (Str × PV)) (e : Expr) (items : List PV) : Prop where
  run : ∀ (X : Addr → Prop) (h₀ : Heap) (own : List Str) (s : Shared) (Q : Value → Shared → Prop) (E : Value → Shared → Prop), FI X τ h₀ own env ρ s.heap →
    (∀ it s' hb, Keeps s s' → Stay s.heap hb → Stay hb s'.heap → Wk X prog w hb s' it items → Q it s') → wpAny (model prog w) A (eval e env) (fun x s₁ => wpAny (model prog w) A (pyIter x) Q E s₁) E s

theorem get_none {h : Heap} {a : Addr} (ha : h.objs.size ≤ a) : h.get? a = none := by
  cases e : h.get? a with
  | none => rfl
  | some o => exact absurd (Heap.lt_size e) (Nat.not_lt.mpr ha)

theorem list_iter {X : Addr → Prop} {s : Shared} {v : Value} {l : List PV} {Q : Value → Shared → Prop} {E : Value → Shared → Prop} (r : Rep X s.heap (.list l) v)
    (hQ : ∀ it s', Keeps s s' → Wk X prog w s.heap s' it l → Q it s') : wpAny (model prog w) A (pyIter v) Q E s := by
  obtain ⟨a, vs, rfl, ⟨hl, hXa⟩, hr⟩ := r.list
  refine wpAny_pyIter_list hl.isList (hQ _ _ (kpush _ _) ?_)
  have hne : a ≠ s.heap.objs.size := by obtain ⟨n, e⟩ := hl; exact Nat.ne_of_lt (Heap.lt_size e)
  have hn : vs.toArray.size = l.length := by rw [List.size_toArray, hr.length]
  refine ⟨s.heap.objs.size, _, _, _, _, rfl, fun A' hA' => hn ▸ Walks.list hA' s.heap.objs.size a hne vs.toArray, ⟨⟨_, Heap.get?_push_size _ rfl, rfl, rfl⟩, hl.isList.at fun o e => Heap.get?_push_of_some _ e⟩,
    fun b hb => ?_, fun i v hv _ => ?_, fun b hb => ?_, fun i h st b hb o e xs n hd => ?_, fun b hb hXb => ?_⟩
  · simp at hb; subst hb; exact get_none (Nat.le_refl _)
  · exact hr.back (by simpa using hv)
  · simp at hb
    rcases hb with rfl | rfl
    · exact ⟨_, Heap.get?_push_size _ rfl, fun _ _ e => (by cases e), fun _ e => (by cases e)⟩
    · obtain ⟨n, e⟩ := hl
      exact ⟨_, Heap.get?_push_of_some _ e, fun _ _ e => (by cases e), fun _ e => (by cases e)⟩
  · simp at hb; subst hb
    obtain ⟨⟨o', ho', _, hd'⟩, _⟩ := st
    rw [e] at ho'; cases ho'; rw [hd] at hd'; cases hd'
  · simp at hb
    rcases hb with rfl | rfl
    · exact get_none (Nat.le_refl _)
    · exact absurd hXb hXa

theorem it_list {e : Expr} {l : List PV} (he : Ev prog w τ A env ρ e (.list l)) : It prog w τ A env ρ e l := .mk fun X h₀ own s Q E F hQ =>
  he.run X h₀ own s _ E F fun v s₁ k₁ r₁ => list_iter r₁ fun it s₂ k₂ W => hQ it s₂ s₁.heap (ktrans k₁ k₂) (Keepsl k₁) (Keepsl k₂) W

theorem it_str {e : Expr} {x : Str} (he : Ev prog w τ A env ρ e (.str x)) : It prog w τ A env ρ e (x.cps.toList.map fun c => .str ⟨#[c]⟩) := .mk fun X h₀ own s Q E F hQ =>
  he.run X h₀ own s _ E F fun v s₁ k₁ r₁ => by
    obtain ⟨t, rfl⟩ := r₁.str
    refine wpAny_pyIter_strU ?_
    refine hQ _ _ s₁.heap (ktrans k₁ (kpush _ _)) (Keepsl k₁) (stay_push _ _) ?_
    have hn : x.cps.size = (x.cps.toList.map fun c => PV.str ⟨#[c]⟩).length := by simp
    refine ⟨s₁.heap.objs.size, [s₁.heap.objs.size], [s₁.heap.objs.size], SignAt x, fun i h => h.IsStrIter s₁.heap.objs.size (strIterType x) x t i, rfl, fun A' hA' => hn ▸ ?_, ⟨_, Heap.get?_push_size _ rfl, rfl, rfl⟩, fun b hb => ?_, fun i v hv _ => ?_, fun b hb => ?_, fun i h st b hb o e xs n hd => ?_, fun b hb hXb => ?_⟩
    · cases ha : x.cps.all (· < 128)
      · have := Walks.strWide (prog := prog) (w := w) hA' s₁.heap.objs.size x t
        simpa [strIterType, ha] using this
      · have := Walks.strAscii (prog := prog) (w := w) hA' s₁.heap.objs.size x t
        simpa [strIterType, ha] using this
    · simp at hb; subst hb; exact get_none (Nat.le_refl _)
    · obtain ⟨c, u, hc, rfl⟩ := hv
      exact ⟨.str ⟨#[c]⟩, by simp [hc], rep_str⟩
    · simp at hb; subst hb
      exact ⟨_, Heap.get?_push_size _ rfl, fun _ _ e => (by cases e), fun _ e => (by cases e)⟩
    · simp at hb; subst hb
      obtain ⟨o', ho', _, hd'⟩ := st
      rw [e] at ho'; cases ho'; rw [hd] at hd'; cases hd'
    · simp at hb; subst hb
      exact get_none (Nat.le_refl _)

def rng (a : Int) (n : Nat) : List PV := (List.range n).map fun (i : Nat) => PV.int (a + i)
theorem rng_len (a : Int) (n : Nat) : (rng a n).length = n := by unfold rng; simp

theorem range_iter {X : Addr → Prop} {s : Shared} {r : Addr} {a b : Int} {t u v : Tok} {Q : Value → Shared → Prop} {E : Value → Shared → Prop} (hr : IsRange s.heap r a b 1 t u v) (n : Nat) (hn : Builtin.Range.rangeSize a b 1 = n)
    (hs : Builtin.Range.small a b 1 = true)
    (hQ : ∀ it s', Keeps s s' → Wk X prog w s.heap s' it (rng a n) → Q it s') : wpAny (model prog w) A (pyIter (.ref r)) Q E s := by
  refine wpAny_pyIter_range hr hs (hQ _ _ (kpush _ _) ?_)
  refine ⟨s.heap.objs.size, _, _, _, _, rfl, fun A' hA' => by rw [rng_len]; exact Walks.range hA' s.heap.objs.size a 1 n, ?_, fun b hb => ?_, fun i v hv hi => ?_, fun b hb => ?_, fun i h st b hb o e xs n hd => ?_, fun b hb hXb => ?_⟩
  · show IsRangeIter _ _ (a + ((0 : Nat) : Int) * 1) ((n : Int) - ((0 : Nat) : Int)) 1
    rw [hn]
    have e1 : a + ((0 : Nat) : Int) * 1 = a := by simp
    have e2 : (n : Int) - ((0 : Nat) : Int) = n := by simp
    rw [e1, e2]
    exact Heap.get?_push_size _ rfl
  · simp at hb; subst hb; exact get_none (Nat.le_refl _)
  · obtain ⟨t', rfl⟩ := hv
    rw [rng_len] at hi
    refine ⟨.int (a + i), ?_, ?_⟩
    · unfold rng; simp [hi]
    · rw [Int.mul_one]; exact rep_int
  · simp at hb; subst hb
    exact ⟨_, Heap.get?_push_size _ rfl, fun _ _ e => (by cases e), fun _ e => (by cases e)⟩
  · simp at hb; subst hb
    have st' : h.get? s.heap.objs.size = some _ := st
    rw [e] at st'; cases st'; cases hd
  · simp at hb; subst hb
    exact get_none (Nat.le_refl _)

theorem it_range1 {x : Str} {np pos : Pos} {e : Expr} {n : Nat} (he : Ev prog w τ A env ρ e (.int n)) (hn : n < 2 ^ 62)
    (hk : env.kindOf x = some .globalImplicit) (hm : τ.mg x = none) (hb : bootBuiltins x = some (.type "range")) (hnm : x ≠ "__name__")
    (hst : starEach [e] env = [(false, eval e env)] := by rfl) (hd : (x == ("__debug__" : Str)) = false := by decide) :
    It prog w τ A env ρ (.Call (.Name x np) [e] [] pos) (rng 0 n) := .mk fun X h₀ own s Q E F hQ =>
  wpAny_Call_NameR (name_builtin F hk hm hb hnm (callWith_typeE (args_cons (he.run X h₀ own s _ E F fun v s₁ k₁ r₁ => args_nil (by
    obtain ⟨t, rfl⟩ := r₁.int
    refine call_range_1 ?_
    refine range_iter (X := X) (IsRange.new _ _ _ _ _ _ _) n (by rw [rangeSize_one]; split <;> omega) (small_one (by omega) (by omega) (by omega) (by omega)) fun it s₂ k₂ W => ?_
    exact hQ it s₂ _ (ktrans k₁ (ktrans ⟨_, _, rfl, fun b o e => Heap.get?_push_of_some _ e⟩ k₂)) ((Keepsl k₁).trans (stay_push _ _)) (Keepsl k₂) W)) hst) hst rfl) hd)

/-- truth -/
structure Tr (prog : Program) (w : World) (τ : TopI) (A : Around) (env : Env) (ρ : List (Str × PV)) (e : Expr) (b : Bool) : Prop where
  run : ∀ (X : Addr → Prop) (h₀ : Heap) (own : List Str) (s : Shared) (Q : Bool → Shared → Prop) (E : Value → Shared → Prop), FI X τ h₀ own env ρ s.heap →
    (∀ s', Keeps s s' → Q b s') → wpAny (model prog w) A (isTrue e env (eval e env)) Q E s
theorem tr_value {e : Expr} {b : Bool} (he : Ev prog w τ A env ρ e (.bool b)) (hw : ∀ whole : Sem Value, isTrue e env whole = (do let v ← whole; standAt e.pos; holding [v] (truthy v)) := by intro _; rfl) : Tr prog w τ A env ρ e b := .mk fun X h₀ own s Q E F hQ =>
  wpAny_isTrue_value (he.run X h₀ own s _ E F fun v s₁ k₁ r₁ => by cases r₁.bool; exact wpAny_truthy_bool (hQ s₁ k₁)) (hw _)
theorem tr_cmp {l r : Expr} {op : CmpOp} {pos : Pos} {p q : PV} {b : Bool} (hl : Ev prog w τ A env ρ l p) (hr : Ev prog w τ A env ρ r q) (hb : Co prog w A op p q (.bool b)) (hm : behindInMarks op r = false := by rfl) :
    Tr prog w τ A env ρ (.Compare l [op] [r] pos) b := .mk fun X h₀ own s Q E F hQ =>
  wpAny_isTrue_Compare1 (hl.run X h₀ own s _ E F fun a s₁ k₁ r₁ => hr.run X h₀ own s₁ _ E (F.stay (Keepsl k₁)) fun c s₂ k₂ r₂ =>
    hb.run X s₂ a c _ E (F.stay (Keepsl (ktrans k₁ k₂))).xs (r₁.stay (Keepsl k₂)) r₂ fun v s' k r => by cases r.bool; exact wpAny_truthy_bool (hQ s' (ktrans k₁ (ktrans k₂ k)))) hm
theorem tr_str {e : Expr} {x : Str} (he : Ev prog w τ A env ρ e (.str x)) (hx : x.length ≤ sizeLine) (hw : ∀ whole : Sem Value, isTrue e env whole = (do let v ← whole; standAt e.pos; holding [v] (truthy v)) := by intro _; rfl) : Tr prog w τ A env ρ e ((x.length : Int) != 0) := .mk fun X h₀ own s Q E F hQ =>
  wpAny_isTrue_value (he.run X h₀ own s _ E F fun v s₁ k₁ r₁ => by obtain ⟨t, rfl⟩ := r₁.str; exact P.truthy_str (Int.not_le.mpr (lt63 hx)) (hQ _ (ktrans k₁ (ktok _ _)))) (hw _)
theorem tr_int {e : Expr} {i : Int} (he : Ev prog w τ A env ρ e (.int i)) (hw : ∀ whole : Sem Value, isTrue e env whole = (do let v ← whole; standAt e.pos; holding [v] (truthy v)) := by intro _; rfl) : Tr prog w τ A env ρ e (i != 0) := .mk fun X h₀ own s Q E F hQ =>
  wpAny_isTrue_value (he.run X h₀ own s _ E F fun v s₁ k₁ r₁ => by obtain ⟨t, rfl⟩ := r₁.int; exact P.truthy_int (hQ _ k₁)) (hw _)

structure Tst (prog : Program) (w : World) (τ : TopI) (A : Around) (env : Env) (ρ : List (Str × PV)) (ifs : List Expr) (b : Bool) : Prop where
  run : ∀ (X : Addr → Prop) (h₀ : Heap) (own : List Str) (s : Shared) (Q : Bool → Shared → Prop) (E : Value → Shared → Prop), FI X τ h₀ own env ρ s.heap →
    (∀ s', Keeps s s' → Q b s') → wpAny (model prog w) A (forIn ifs true fun c r => if r = true then do let ok ← isTrue c env (eval c env); pure (ForInStep.yield ok) else pure (ForInStep.yield r)) Q E s
theorem tst_nil : Tst prog w τ A env ρ [] true := .mk fun X h₀ own s Q E F hQ => by rw [List.forIn_nil]; exact wpAny_pure (hQ s (krefl s))
theorem tst_one {c : Expr} {b : Bool} (hc : Tr prog w τ A env ρ c b) : Tst prog w τ A env ρ [c] b := .mk fun X h₀ own s Q E F hQ => by
  rw [List.forIn_cons, if_pos rfl]
  refine wpAny_bind (wpAny_bind (hc.run X h₀ own s _ E F fun s₁ k₁ => wpAny_pure ?_))
  simp only [List.forIn_nil]
  exact wpAny_pure (hQ s₁ k₁)
end
end Mine

/-! V5 -/
namespace Mine
set_option linter.unusedVariables false

theorem cells_app : ∀ (names : List (Str × NameKind)) (n : Nat) (acc : List (Str × Addr)), cellsFrom n names acc = cellsFrom n names [] ++ acc
  | [], n, acc => rfl
  | (x, k) :: r, n, acc => by
    unfold cellsFrom
    split
    · rw [cells_app r (n + 1) ((x, n) :: acc), cells_app r (n + 1) [(x, n)], List.append_assoc]; rfl
    · exact cells_app r n acc
theorem cells_mem : ∀ (names : List (Str × NameKind)) (n : Nat) {x : Str} {c : Addr}, (x, c) ∈ cellsFrom n names [] → (x, NameKind.cell) ∈ names
  | [], n, x, c, h => by cases h
  | (y, k) :: r, n, x, c, h => by
    unfold cellsFrom at h
    split at h
    · rename_i hk
      rw [cells_app] at h
      rcases List.mem_append.mp h with h | h
      · exact List.mem_cons_of_mem _ (cells_mem r _ h)
      · simp at h
        obtain ⟨rfl, _⟩ := h
        rw [beq_iff_eq] at hk
        subst hk
        exact List.mem_cons_self
    · exact List.mem_cons_of_mem _ (cells_mem r _ h)
theorem or_some (a : Option Addr) (n : Addr) : ∃ c, a.or (some n) = some c := by cases a <;> exact ⟨_, rfl⟩
theorem lookup_one (x : Str) (n : Addr) : ([(x, n)] : List (Str × Addr)).lookup x = some n := by simp
theorem cells_has : ∀ (names : List (Str × NameKind)) (n : Nat) {x : Str}, (x, NameKind.cell) ∈ names → ∃ c, (cellsFrom n names []).lookup x = some c
  | [], n, x, h => by cases h
  | (y, k) :: r, n, x, h => by
    unfold cellsFrom
    split
    · rename_i hk
      rw [cells_app, List.lookup_append]
      rcases List.mem_cons.mp h with e | h
      · cases e
        rw [lookup_one]
        exact or_some _ _
      · obtain ⟨c, e⟩ := cells_has r (n + 1) h
        exact ⟨c, by rw [e]; rfl⟩
    · rename_i hk
      rcases List.mem_cons.mp h with e | h
      · cases e; exact absurd rfl hk
      · exact cells_has r n h

theorem closure_ok {env : Env} (f : Str × NameKind → List (Str × Addr) → Sem (ForInStep (List (Str × Addr))))
    (hf : ∀ name kind cs, f (name, kind) cs = if kind == .free then (do let a ← cellOf env name; pure (.yield ((name, a) :: cs))) else pure (.yield cs)) :
    ∀ (names : List (Str × NameKind)) (acc : List (Str × Addr)), (∀ y ∈ names, y.2 = .free → ∃ c, env.cells.lookup y.1 = some c) →
      ∃ cl, forIn names acc f = pure (cl ++ acc) ∧ (∀ y c, (y, c) ∈ cl → env.cells.lookup y = some c ∧ (y, NameKind.free) ∈ names) ∧ (∀ y, (y, NameKind.free) ∈ names → ∃ c, cl.lookup y = some c)
  | [], acc, _ => ⟨[], by rw [List.forIn_nil]; rfl, fun _ _ h => (by cases h), fun _ h => (by cases h)⟩
  | (x, k) :: r, acc, H => by
    rw [List.forIn_cons, hf]
    by_cases hk : (k == NameKind.free) = true
    · rw [if_pos hk]
      have hk' : k = .free := by simpa using hk
      obtain ⟨c, hc⟩ := H (x, k) List.mem_cons_self hk'
      obtain ⟨cl, e, h1, h2⟩ := closure_ok f hf r ((x, c) :: acc) fun y hy => H y (List.mem_cons_of_mem _ hy)
      refine ⟨cl ++ [(x, c)], ?_, fun y d hd => ?_, fun y hy => ?_⟩
      · unfold cellOf
        rw [hc]
        show forIn r ((x, c) :: acc) f = _
        rw [e, List.append_assoc]; rfl
      · rcases List.mem_append.mp hd with hd | hd
        · exact ⟨(h1 y d hd).1, List.mem_cons_of_mem _ (h1 y d hd).2⟩
        · simp at hd
          obtain ⟨rfl, rfl⟩ := hd
          exact ⟨hc, hk' ▸ List.mem_cons_self⟩
      · rw [List.lookup_append]
        rcases List.mem_cons.mp hy with e | hy
        · cases e
          rw [lookup_one]
          exact or_some _ _
        · obtain ⟨c', e'⟩ := h2 y hy
          exact ⟨c', by rw [e']; rfl⟩
    · rw [if_neg hk]
      obtain ⟨cl, e, h1, h2⟩ := closure_ok f hf r acc fun y hy => H y (List.mem_cons_of_mem _ hy)
      refine ⟨cl, e, fun y d hd => ⟨(h1 y d hd).1, List.mem_cons_of_mem _ (h1 y d hd).2⟩, fun y hy => ?_⟩
      rcases List.mem_cons.mp hy with e | hy
      · cases e; exact absurd rfl hk
      · exact h2 y hy

theorem closureFor_ok {env : Env} {scope : Scope} (H : ∀ y ∈ scope.names, y.2 = .free → ∃ c, env.cells.lookup y.1 = some c) :
    ∃ cl, closureFor scope env = pure cl ∧ (∀ y c, (y, c) ∈ cl → env.cells.lookup y = some c ∧ (y, NameKind.free) ∈ scope.names) ∧ (∀ y, (y, NameKind.free) ∈ scope.names → ∃ c, cl.lookup y = some c) := by
  suffices h : ∀ f : Str × NameKind → List (Str × Addr) → Sem (ForInStep (List (Str × Addr))), (∀ name kind cs, f (name, kind) cs = if kind == .free then (do let a ← cellOf env name; pure (.yield ((name, a) :: cs))) else pure (.yield cs)) →
      ∃ cl, (forIn scope.names [] f >>= fun cs => pure cs : Sem _) = pure cl ∧ (∀ y c, (y, c) ∈ cl → env.cells.lookup y = some c ∧ (y, NameKind.free) ∈ scope.names) ∧ (∀ y, (y, NameKind.free) ∈ scope.names → ∃ c, cl.lookup y = some c) from
    h _ fun _ _ _ => rfl
  intro f hf
  obtain ⟨cl, e, h1, h2⟩ := closure_ok (env := env) f hf scope.names [] H
  refine ⟨cl, ?_, h1, h2⟩
  rw [List.append_nil] at e
  rw [e]; rfl

section
variable {prog : Program} {w : World} {τ : TopI} {A : Around} {env : Env} {ρ : List (Str × PV)}

theorem newEnv_comp {scope : Scope} {cl : List (Str × Addr)} {s : Shared} {Q : Env → Shared → Prop} {E : Value → Shared → Prop}
    (h : ∀ (cs : List (Str × Addr)) (h' : Heap), cs = cellsFrom (s.heap.objs.size + 1) scope.names [] → CellsOk h' (s.heap.objs.size + 1) cs → h'.Ns s.heap.objs.size (fun _ => none) → Stay s.heap h' →
      Q { scope := scope, locals := s.heap.objs.size, globals := env.globals, cells := cs ++ cl, qual := env.qual, func := none, code := env.code, frame := env.frame, builtins := env.builtins } { s with heap := h' }) :
    wpAny (model prog w) A (newFunctionEnv scope env.globals cl [] env.qual none .none (some env)) Q E s := by
  unfold newFunctionEnv
  refine wpAny_bind (wpAny_alloc ?_)
  refine wpAny_bind (wpAny_layCells _ (fun _ _ _ => rfl) scope.names cl _ _ ?_)
  dsimp only
  simp only [List.forIn_nil]
  refine wpAny_bind (wpAny_pure (wpAny_pure ?_))
  have hz : (s.heap.push { cls := .type (if (some env : Option Env).isSome = true then "dict" else "frame"), data := .dict #[] }).objs.size = s.heap.objs.size + 1 := Heap.size_push ..
  rw [hz, cells_app]
  have ok := cellsFrom_ok scope.names (s.heap.push { cls := .type (if (some env : Option Env).isSome = true then "dict" else "frame"), data := .dict #[] }) (s.heap.objs.size + 1) [] ⟨fun _ _ h => (by cases h), .nil⟩ (by rw [hz]; exact Nat.le_refl _)
  rw [hz] at ok
  exact h _ _ rfl ok ((Heap.Ns.new s.heap _).keeps fun b o e => pushCells_keeps _ _ b o e) fun b o e => pushCells_keeps _ _ b o (Heap.get?_push_of_some _ e)

/-- what a comprehension's scope must be -/
def compOk (scope : Scope) (env : Env) (ρ : List (Str × PV)) (x : Str) : Bool :=
  (scope.names.all fun y => (y.2 != .free || ((ρ.lookup y.1).isSome && (env.kindOf y.1 == some .cell || env.kindOf y.1 == some .free))) && ((y.2 != .local && y.2 != .cell) || y.1 == x || (ρ.lookup y.1).isNone)) &&
  (scope.names.all fun y => y.2 != .local || scope.names.lookup y.1 == some .local) && (scope.names.all fun y => scope.names.lookup y.1 == some y.2)

theorem relabel_lookup (names : List (Str × NameKind)) (g : Str × NameKind → NameKind) (x : Str) : (names.map fun y => (y.1, g y)).lookup x = (names.lookup x).map fun k => g (x, k) := by
  induction names with
  | nil => rfl
  | cons y r ih =>
    obtain ⟨n, k⟩ := y
    rw [List.map_cons, List.lookup_cons, List.lookup_cons]
    cases hb : x == n with
    | true => rw [beq_iff_eq] at hb; subst hb; rfl
    | false => exact ih
theorem relabel_kind (scope : Scope) (env : Env) (C : Addr) (cl : List (Str × Addr)) (x : Str) :
    (compEnvC scope cl C env).kindOf x = (scope.names.lookup x).map fun k => if (k == .free && env.scope.kind == .function && env.kindOf x == some .cell) then .cell else k := by
  have e : (relabel scope env).names = scope.names.map fun y => (y.1, (fun y : Str × NameKind => if (y.2 == .free && env.scope.kind == .function && env.kindOf y.1 == some .cell) then NameKind.cell else y.2) y) := by
    unfold relabel
    dsimp only
    refine List.map_congr_left fun y _ => ?_
    obtain ⟨n, k⟩ := y
    dsimp only
    split <;> rfl
  show (relabel scope env).names.lookup x = _
  rw [e, relabel_lookup]
end
end Mine

/-! V6 -/
namespace Mine
set_option linter.unusedVariables false
section
variable {prog : Program} {w : World} {τ : TopI} {A : Around} {env : Env} {ρ : List (Str × PV)}

theorem sameBut_stay {a : Addr} {h h' : Heap} (x : Heap.SameBut a h h') : ∀ b o, b ≠ a → h.get? b = some o → h'.get? b = some o := fun b o hb e => (x.2 b hb).trans e

theorem comp_store {cenv : Env} {cs : List (Str × Addr)} {x : Str} {C : Addr} {v : Value} {m : Str → Option Value} {s : Shared} {Q : Unit → Shared → Prop} {E : Value → Shared → Prop}
    (hfn : cenv.scope.kind = .function) (hC : cenv.locals = C) (hx : cenv.kindOf x = some .local ∨ (cenv.kindOf x = some .cell ∧ ∃ c, cs.lookup x = some c ∧ cenv.cells.lookup x = some c))
    (hn : s.heap.Ns C m) (hc : ∀ c, cs.lookup x = some c → ∃ v₀, s.heap.IsCell c v₀)
    (h : ∀ h₂ tk m₂, h₂.Ns C m₂ → (cenv.kindOf x = some .local → m₂ x = some v) → (cenv.kindOf x = some .cell → ∀ c, cs.lookup x = some c → h₂.IsCell c (some v)) → (∀ c, cs.lookup x = some c → ∃ v₀, h₂.IsCell c v₀) →
      (∀ b o, b ≠ C → (∀ c, cs.lookup x = some c → b ≠ c) → s.heap.get? b = some o → h₂.get? b = some o) → Q () { s with heap := h₂, toks := tk }) :
    wpAny (model prog w) A (storeName cenv x v) Q E s := by
  rcases hx with hx | ⟨hx, c, hcs, hcl⟩
  · refine wpAny_storeName_local hx (hC ▸ hn) (fun h₂ hn₂ hs₂ => ?_) (by rw [hfn]; rfl)
    rw [hC] at hn₂ hs₂
    refine h h₂ _ _ hn₂ (fun _ => by simp) (fun hk => by rw [hx] at hk; cases hk) (fun c e => ?_) fun b o hb _ e => sameBut_stay hs₂ b o hb e
    obtain ⟨v₀, hv⟩ := hc c e
    refine ⟨v₀, hv.sameBut hs₂ ?_⟩
    rintro rfl
    obtain ⟨o, ho, hd⟩ := hv
    obtain ⟨o', es, n, ho', hd', _⟩ := hn
    rw [ho] at ho'; cases ho'; rw [hd] at hd'; cases hd'
  · obtain ⟨v₀, hv⟩ := hc c hcs
    refine wpAny_storeName_cell hfn hx hcl hv fun h₂ hc₂ hs₂ => ?_
    refine h h₂ s.toks m (hn.sameBut hs₂ ?_) (fun hk => by rw [hx] at hk; cases hk) (fun _ c' e => by rw [hcs] at e; cases e; exact hc₂) (fun c' e => by rw [hcs] at e; cases e; exact ⟨_, hc₂⟩) fun b o _ hb e => sameBut_stay hs₂ b o (hb c hcs) e
    rintro rfl
    obtain ⟨o, ho, hd⟩ := hv
    obtain ⟨o', es, n, ho', hd', _⟩ := hn
    rw [ho] at ho'; cases ho'; rw [hd] at hd'; cases hd'

theorem not_ex {h : Heap} {a : Addr} {o : Obj} (e : h.get? a = some o) {n : Nat} (hn : h.objs.size ≤ n) : a ≠ n := Nat.ne_of_lt (Nat.lt_of_lt_of_le (Heap.lt_size e) hn)

theorem compOk_names {scope : Scope} {x : Str} (h : compOk scope env ρ x = true) : ∀ y ∈ scope.names, y.2 = .local → scope.names.lookup y.1 = some .local := fun y hy hk => by
  unfold compOk at h
  rw [Bool.and_eq_true, Bool.and_eq_true] at h
  have := List.all_eq_true.mp h.1.2 y hy
  rw [hk] at this
  simpa using this
theorem compOk_uniq {scope : Scope} {x : Str} (h : compOk scope env ρ x = true) : ∀ y k, (y, k) ∈ scope.names → scope.names.lookup y = some k := fun y k hy => by
  unfold compOk at h
  rw [Bool.and_eq_true] at h
  simpa using List.all_eq_true.mp h.2 (y, k) hy
theorem compOk_free {scope : Scope} {x : Str} (h : compOk scope env ρ x = true) : ∀ y, (y, NameKind.free) ∈ scope.names → (∃ q, ρ.lookup y = some q) ∧ (env.kindOf y = some .cell ∨ env.kindOf y = some .free) := fun y hy => by
  unfold compOk at h
  rw [Bool.and_eq_true, Bool.and_eq_true] at h
  have := List.all_eq_true.mp h.1.1 _ hy
  rw [Bool.and_eq_true] at this
  have := this.1
  simp only [bne_self_eq_false, Bool.false_or, Bool.and_eq_true, Bool.or_eq_true, beq_iff_eq] at this
  exact ⟨Option.isSome_iff_exists.mp this.1, this.2⟩
theorem compOk_own {scope : Scope} {x : Str} (h : compOk scope env ρ x = true) : ∀ y k, (y, k) ∈ scope.names → (k = .local ∨ k = .cell) → y = x ∨ ρ.lookup y = none := fun y k hy hk => by
  unfold compOk at h
  rw [Bool.and_eq_true, Bool.and_eq_true] at h
  have := List.all_eq_true.mp h.1.1 _ hy
  rw [Bool.and_eq_true] at this
  have := this.2
  rcases hk with rfl | rfl <;> simpa using this

/-- the frame's facts of a comprehension's turn -/
theorem comp_fi {X : Addr → Prop} {scope : Scope} {x : Str} {p : PV} {v : Value} {h₀ hb h₂ : Heap} {own : List Str} {s : Shared} {cs cl : List (Str × Addr)} {C D lo : Addr} {m₂ : Str → Option Value}
    (F : FI X τ h₀ own env ρ s.heap) (hkind : scope.kind = .function) (ok : compOk scope env ρ x = true)
    (kb : Stay s.heap hb) (k₂ : Stay hb h₂) (hD : hb.get? D = none) (hC : hb.get? C = none) (hDh : ∃ o, h₂.get? D = some o) (hr : Rep X hb p v)
    (hcs : ∀ y c, (y, c) ∈ cs → (y, NameKind.cell) ∈ scope.names ∧ lo ≤ c) (hlo : ∀ c, lo ≤ c → hb.get? c = none) (hap : cs.Pairwise fun a b => a.2 ≠ b.2)
    (hcl : ∀ y c, (y, c) ∈ cl → env.cells.lookup y = some c ∧ (y, NameKind.free) ∈ scope.names) (hcl' : ∀ y, (y, NameKind.free) ∈ scope.names → ∃ c, cl.lookup y = some c)
    (hn : h₂.Ns C m₂) (hx : scope.names.lookup x = some .local ∨ scope.names.lookup x = some .cell)
    (hm : (compEnvC scope (cs ++ cl) C env).kindOf x = some .local → m₂ x = some v)
    (hc : (compEnvC scope (cs ++ cl) C env).kindOf x = some .cell → ∃ c, cs.lookup x = some c ∧ h₂.IsCell c (some v)) :
    FI (fun a => X a ∨ a = D) τ hb [] (compEnvC scope (cs ++ cl) C env) ((x, p) :: ρ) h₂ := by
  have noD : ∀ {h : Heap} {a : Addr} {o : Obj}, Stay h hb → h.get? a = some o → (X a ∨ a = D) → X a := fun k e y => by
    rcases y with y | rfl
    · exact y
    · rw [k _ _ e] at hD; cases hD
  have hv : Rep (fun a => X a ∨ a = D) h₂ p v := (hr.more (Y := fun a => X a ∨ a = D) fun a o e y => noD (Stay.refl _) e y).stay k₂
  have kin : ∀ y, (compEnvC scope (cs ++ cl) C env).kindOf y = some .local → scope.names.lookup y = some .local := fun y e => by
    rw [relabel_kind] at e
    cases hl : scope.names.lookup y with
    | none => rw [hl] at e; cases e
    | some k =>
      rw [hl, Option.map_some] at e
      split at e
      · cases e
      · exact e
  have kic : ∀ y, ((compEnvC scope (cs ++ cl) C env).kindOf y = some .cell ∨ (compEnvC scope (cs ++ cl) C env).kindOf y = some .free) → scope.names.lookup y = some .free ∨ scope.names.lookup y = some .cell := fun y e => by
    rw [relabel_kind] at e
    cases hl : scope.names.lookup y with
    | none => rw [hl] at e; simp at e
    | some k =>
      rw [hl, Option.map_some] at e
      split at e
      · rename_i hk
        simp only [Bool.and_eq_true, beq_iff_eq] at hk
        rw [hk.1.1]; exact .inl rfl
      · rcases e with e | e
        · exact .inr e
        · exact .inl e
  have clC : ∀ y c, (y, c) ∈ cl → ∃ q u, ρ.lookup y = some q ∧ s.heap.IsCell c (some u) ∧ Rep X s.heap q u := fun y c hy => by
    obtain ⟨e1, e2⟩ := hcl y c hy
    obtain ⟨⟨q, hq⟩, hk⟩ := compOk_free ok y e2
    obtain ⟨c', u, e3, hcu, hru⟩ := F.C y q hq hk
    rw [e1] at e3; cases e3
    exact ⟨q, u, hq, hcu, hru⟩
  refine ⟨τ.stable _ _ F.tt kb, fun a y => ?_, k₂, hC, fun y c hy => (by cases hy), F.glob, F.blt, hkind, ⟨m₂, hn, fun y q hq hk => ?_⟩, fun y q hq hk => ?_, fun y hy => (by cases hy), fun y z c hy hz => ?_⟩
  · rcases y with y | rfl
    · obtain ⟨o, e⟩ := F.xs a y
      exact ⟨o, k₂ _ _ (kb _ _ e)⟩
    · exact hDh
  · rw [List.lookup_cons] at hq
    cases hxy : y == x with
    | true =>
      rw [hxy] at hq
      cases hq
      rw [beq_iff_eq] at hxy; subst hxy
      exact ⟨v, hm hk, hv⟩
    | false =>
      rw [hxy] at hq
      have hl := kin y hk
      rcases compOk_own ok y .local (mem_of_lookup hl) (.inl rfl) with rfl | e
      · simp at hxy
      · rw [e] at hq; cases hq
  · rw [List.lookup_cons] at hq
    cases hxy : y == x with
    | true =>
      rw [hxy] at hq
      cases hq
      rw [beq_iff_eq] at hxy; subst hxy
      have hkc : (compEnvC scope (cs ++ cl) C env).kindOf y = some .cell := by
        rcases hk with hk | hk
        · exact hk
        · rcases kic y (.inr hk) with e | e
          · rcases hx with hx | hx <;> rw [hx] at e <;> cases e
          · rw [relabel_kind, e] at hk; simp at hk
      obtain ⟨c, e, hcc⟩ := hc hkc
      exact ⟨c, v, by show (cs ++ cl).lookup y = some c; rw [List.lookup_append, e]; rfl, hcc, hv⟩
    | false =>
      rw [hxy] at hq
      rcases kic y hk with hl | hl
      · have hmem := mem_of_lookup hl
        obtain ⟨c, e⟩ := hcl' y hmem
        have hce := (hcl y c (mem_of_lookup e)).1
        obtain ⟨c', u, e', hcu, hru⟩ := F.C y q hq (compOk_free ok y hmem).2
        rw [hce] at e'; cases e'
        refine ⟨c, u, ?_, hcu.keeps (kb.trans k₂), (hru.more (Y := fun a => X a ∨ a = D) fun a o e y => noD kb e y).stay (kb.trans k₂)⟩
        show (cs ++ cl).lookup y = some c
        rw [List.lookup_append]
        cases hcy : cs.lookup y with
        | none => exact e
        | some c' =>
          have := compOk_uniq ok y _ (hcs y c' (mem_of_lookup hcy)).1
          rw [hl] at this; cases this
      · rcases compOk_own ok y .cell (mem_of_lookup hl) (.inr rfl) with rfl | e
        · simp at hxy
        · rw [e] at hq; cases hq
  · have hy' : (cs ++ cl).lookup y = some c := hy
    have hz' : (cs ++ cl).lookup z = some c := hz
    rcases List.mem_append.mp (mem_of_lookup hy') with h1 | h1 <;> rcases List.mem_append.mp (mem_of_lookup hz') with h2 | h2
    · exact name_of_addr hap h1 h2
    · obtain ⟨q, u, _, hcu, _⟩ := clC z c h2
      obtain ⟨o, ho, _⟩ := hcu
      have e1 := hlo c (hcs y c h1).2
      rw [kb _ _ ho] at e1; cases e1
    · obtain ⟨q, u, _, hcu, _⟩ := clC y c h1
      obtain ⟨o, ho, _⟩ := hcu
      have e1 := hlo c (hcs z c h2).2
      rw [kb _ _ ho] at e1; cases e1
    · exact F.inj y z c (hcl y c h1).1 (hcl z c h2).1
end
end Mine

/-! V7 -/
namespace Mine
set_option linter.unusedVariables false
section
variable {prog : Program} {w : World} {τ : TopI} {A : Around} {env : Env} {ρ : List (Str × PV)}

theorem take_succ_get {α : Type} {l : List α} {i : Nat} {p : α} (h : l[i]? = some p) : l.take (i + 1) = l.take i ++ [p] := by
  rw [List.take_add_one, h]; rfl

theorem comp_core {elt iter : Expr} {x : Str} {px pos : Pos} {ifs : List Expr} {scope : Scope} {items : List PV} (f : PV → PV) (t : PV → Bool) {ipos : Pos} {use : Option (Value → Sem Unit)}
    {X : Addr → Prop} {h₀ : Heap} {own : List Str} {s : Shared} {Q : Value → Shared → Prop} {E : Value → Shared → Prop} (F : FI X τ h₀ own env ρ s.heap)
    (hit : It prog w τ A env ρ iter items)
    (hx : scope.names.lookup x = some .local ∨ scope.names.lookup x = some .cell) (ok : compOk scope env ρ x = true) (hkind : scope.kind = .function)
    (htest : ∀ p ∈ items, ∀ C cs, Tst prog w τ A (compEnvC scope cs C env) ((x, p) :: ρ) ifs (t p))
    (helt : ∀ p ∈ items, t p = true → ∀ C cs, Ev prog w τ A (compEnvC scope cs C env) ((x, p) :: ρ) elt (f p))
    (hA : A.handled = none) (hsz : items.length ≤ sizeLine) (hs : ∀ v, foldedSetIterable iter env v = pure v)
    (hfin : ∀ (D C : Addr) (s' : Shared) (m : Str → Option Value), Keeps s s' → Rep X s'.heap (.list ((items.filter t).map f)) (.ref D) → s'.heap.Ns C m → s.heap.get? C = none → C ≠ D →
      compPost (model prog w) A E use Q (.ref D) C (.ok .next) s') :
    wpAny (model prog w) A (comprehension (.ListComp elt [⟨.Name x px, iter, ifs, 0⟩] scope pos) scope env ipos (newList []) false (eval iter env) use) Q E s := by
  obtain ⟨cl, hclos, hcl, hcl'⟩ := closureFor_ok (env := env) (scope := scope) fun y hy hk => by
    obtain ⟨⟨q, hq⟩, hk'⟩ := compOk_free ok y.1 (by rw [← hk]; exact hy)
    obtain ⟨c, u, e, _⟩ := F.C y.1 q hq hk'
    exact ⟨c, e⟩
  refine wpAny_comprehension_free (use := use) rfl hs hclos hkind (compOk_names ok) ?_
  refine hit.run X h₀ own s _ E F fun it s₂ hb k₂ kb kb' W => ?_
  refine wpAny_newList (items := []) ?_ (Nat.zero_le _)
  refine newEnv_comp fun cs h₄ ecs okc hnC k₄ => ?_
  obtain ⟨I, fp, wr, P, St, rfl, Wl, hst, hwr, hP, hfp, hseqW, _⟩ := W
  have hz : (s₂.heap.push { cls := .type "list", data := .seq ([] : List Value).toArray }).objs.size = s₂.heap.objs.size + 1 := Heap.size_push ..
  dsimp only at ecs okc hnC k₄ ⊢
  rw [hz] at ecs okc hnC ⊢
  generalize hDe : s₂.heap.objs.size = D at ecs okc hnC ⊢
  have kD : Stay s₂.heap h₄ := (stay_push _ _).trans k₄
  have hD2 : s₂.heap.get? D = none := get_none (hDe ▸ Nat.le_refl _)
  have noS2 : ∀ c, D ≤ c → s₂.heap.get? c = none := fun c hc => get_none (hDe ▸ hc)
  have noHb : ∀ c, D ≤ c → hb.get? c = none := fun c hc => by
    cases e : hb.get? c with
    | none => rfl
    | some o => exact absurd (kb' c o e) (by rw [noS2 c hc]; exact fun h => (by cases h))
  have hplD : h₄.PlainList D #[] := ⟨0, k₄ _ _ (by rw [← hDe]; exact Heap.get?_push_size _ rfl)⟩
  have hcs : ∀ y c, (y, c) ∈ cs → (y, NameKind.cell) ∈ scope.names ∧ D + 1 + 1 ≤ c := fun y c hm => ⟨cells_mem _ _ (ecs ▸ hm), (okc.empty y c hm).2⟩
  have hfpD : D ∉ fp := fun hm => by obtain ⟨o, e, _⟩ := hfp _ hm; rw [hD2] at e; cases e
  have hfpC : D + 1 ∉ fp := fun hm => by obtain ⟨o, e, _⟩ := hfp _ hm; rw [noS2 _ (Nat.le_succ _)] at e; cases e
  have hfpc : ∀ c, cs.lookup x = some c → c ∉ fp := fun c e hm => by
    obtain ⟨o, e', _⟩ := hfp _ hm
    have := (hcs x c (mem_of_lookup e)).2
    rw [noS2 c (by omega)] at e'; cases e'
  have hcD : ∀ c, cs.lookup x = some c → D ≠ c := fun c e => by have := (hcs x c (mem_of_lookup e)).2; omega
  have hxk : (compEnvC scope (cs ++ cl) (D + 1) env).kindOf x = some .local ∨ ((compEnvC scope (cs ++ cl) (D + 1) env).kindOf x = some .cell ∧ ∃ c, cs.lookup x = some c ∧ (compEnvC scope (cs ++ cl) (D + 1) env).cells.lookup x = some c) := by
    rw [relabel_kind]
    rcases hx with hx | hx
    · left; rw [hx]; rfl
    · right
      refine ⟨by rw [hx]; rfl, ?_⟩
      obtain ⟨c, e⟩ := cells_has scope.names (D + 1 + 1) (mem_of_lookup hx)
      rw [← ecs] at e
      exact ⟨c, e, by show (cs ++ cl).lookup x = some c; rw [List.lookup_append, e]; rfl⟩
  have hWs := (Wl A hA).sub
  have loop : ∀ s₄ : Shared, s₄ = { s₂ with heap := h₄ } → codeAny (model prog w) A (.compLoop (.ListComp elt [⟨.Name x px, iter, ifs, 0⟩] scope pos) 0 (.ref I) (.ref D) (compEnvC scope (cs ++ cl) (D + 1) env))
      (compPost (model prog w) A E use Q (.ref D) (D + 1)) s₄ := by
    rintro s₄ rfl
    refine codeAny_compLoop_tests (fun k s' => ∃ h' tk, ∃ ys : List Value, ∃ i : Nat, s' = { s₂ with heap := h', toks := tk } ∧ St i h' ∧ h'.PlainList D ys.toArray ∧ (∃ m, h'.Ns (D + 1) m) ∧
      (∀ c, cs.lookup x = some c → ∃ v₀, h'.IsCell c v₀) ∧ Stay hb h' ∧ RepL (fun a => X a ∨ a = D) h' (((items.take i).filter t).map f) ys ∧ i ≤ items.length ∧ k = items.length + 1 - i) ?_ (items.length + 1)
      ⟨h₄, s₂.toks, [], 0, rfl, (Wl A hA).frame 0 _ _ hst fun b _ o e => kD b o e, hplD, ⟨_, hnC⟩, fun c e => ⟨_, (okc.empty x c (mem_of_lookup e)).1⟩, kb'.trans kD, by simpa using RepL.nil, Nat.zero_le _, rfl⟩
    rintro k s' ⟨h', tk, ys, i, rfl, hst', hpl', ⟨m', hn'⟩, hcell', kh', hys, hi, rfl⟩
    have hCD : D ≠ D + 1 := Nat.ne_of_lt (Nat.lt_succ_self _)
    have hDw : D ∉ wr := fun h => hfpD (hWs _ h)
    have hCw : D + 1 ∉ wr := fun h => hfpC (hWs _ h)
    by_cases hlt : i < items.length
    · refine (Wl A hA).item i _ _ _ hlt hst' fun v h₁ tk₁ hPv hst₁ hk₁ => ?_
      obtain ⟨p, hp, hr⟩ := hP i v hPv hlt
      have hpm : p ∈ items := List.mem_of_getElem? hp
      have kh₁ : Stay hb h₁ := fun b o e => hk₁ b o (fun hw => by rw [hwr b hw] at e; cases e) (kh' b o e)
      refine wpAny_assign_Name (comp_store (cs := cs) (C := D + 1) (m := m') hkind rfl hxk (hn'.at' fun o e => hk₁ _ o hCw e) (fun c e => ?_) fun h₂ tk₂ m₂ hn₂ hml hmc hce hk₂ => ?_)
      · obtain ⟨v₀, hv⟩ := hcell' c e
        obtain ⟨o, ho, hd⟩ := hv
        exact ⟨v₀, o, hk₁ c o (fun hw => hfpc c e (hWs _ hw)) ho, hd⟩
      dsimp only at hk₂
      have kh₂ : Stay hb h₂ := fun b o e => hk₂ b o (fun h => by rw [h, noHb _ (Nat.le_succ _)] at e; cases e) (fun c hc h => by
        rw [h, noHb _ (by have := (hcs x c (mem_of_lookup hc)).2; omega)] at e; cases e) (kh₁ b o e)
      have hpl₂ : h₂.PlainList D ys.toArray := hpl'.at fun o e => hk₂ D o hCD (fun c hc => hcD c hc) (hk₁ D o hDw e)
      have hst₂ : St (i + 1) h₂ := (Wl A hA).frame _ _ _ hst₁ fun b hb' o e => hk₂ b o (fun h => hfpC (h ▸ hb')) (fun c hc h => hfpc c hc (h ▸ hb')) e
      have seqS : StayS (fun a => X a ∨ a = D) h' h₂ := fun b o e hXb hseq => by
        obtain ⟨xs, n, hd⟩ := hseq
        have hbw : b ∉ wr ∨ b ∈ wr := Classical.em _ |>.symm
        rcases hbw with hbw | hbw
        · refine hk₂ b o (fun h => ?_) (fun c hc h => ?_) (hk₁ b o hbw e)
          · subst h
            obtain ⟨o', es, n', ho', hd', _⟩ := hn'
            rw [e] at ho'; cases ho'; rw [hd] at hd'; cases hd'
          · subst h
            obtain ⟨v₀, o', ho', hd'⟩ := hcell' _ hc
            rw [e] at ho'; cases ho'; rw [hd] at hd'; cases hd'
        · exact absurd hd (hseqW _ _ hst' b hbw o e xs n)
      have hys₂ : RepL (fun a => X a ∨ a = D) h₂ (((items.take i).filter t).map f) ys := hys.stayS seqS _ _
      have Fi := comp_fi (X := X) (D := D) (C := D + 1) (lo := D + 1 + 1) (cs := cs) (cl := cl) (p := p) (v := v) F hkind ok kb kh₂ (noHb _ (Nat.le_refl _)) (noHb _ (Nat.le_succ _)) (let ⟨n, e⟩ := hpl₂; ⟨_, e⟩) hr hcs
        (fun c hc => noHb c (Nat.le_trans (by omega : D ≤ D + 1 + 1) hc)) okc.apart hcl hcl' hn₂ hx hml (fun hk => by
          rcases hxk with h | ⟨_, c, e, _⟩
          · rw [h] at hk; cases hk
          · exact ⟨c, e, hmc hk c e⟩)
      refine (htest p hpm (D + 1) (cs ++ cl)).run _ hb [] _ _ _ Fi fun s₃ k₃ => ?_
      obtain ⟨h₃, tk₃, rfl, k₃⟩ := k₃
      have hfull : items.take (i + 1) = items.take i ++ [p] := take_succ_get hp
      cases htp : t p with
      | false =>
        simp only [Bool.false_eq_true, if_false]
        refine ⟨items.length + 1 - (i + 1), by omega, h₃, tk₃, ys, i + 1, rfl, (Wl A hA).frame _ _ _ hst₂ fun b _ o e => k₃ b o e, hpl₂.at fun o e => k₃ _ o e, ⟨_, hn₂.keeps k₃⟩, fun c e => let ⟨v₀, hv⟩ := hce c e; ⟨v₀, hv.keeps k₃⟩, (fun b o e => k₃ b o (kh₂ b o e)), ?_, by omega, rfl⟩
        rw [hfull, List.filter_append]
        simpa [htp] using hys₂.stay k₃
      | true =>
        simp only [if_true]
        refine (helt p hpm htp (D + 1) (cs ++ cl)).run _ hb [] _ _ _ (Fi.stay k₃) fun y s₄ k₄' r₄ => ?_
        obtain ⟨h₅, tk₅, rfl, k₅⟩ := k₄'
        have hlen := hys.length
        refine wpAny_list_append_plain ((hpl₂.at fun o e => k₃ _ o e).at fun o e => k₅ _ o e) (fun h₆ hl₆ hs₆ => ?_) ?_
        · have k₆ : ∀ b o, b ≠ D → h₅.get? b = some o → h₆.get? b = some o := fun b o hb' e => sameBut_stay hs₆ b o hb' e
          have seq6 : StayS (fun a => X a ∨ a = D) h₅ h₆ := fun b o e hXb _ => k₆ b o (fun h => hXb (.inr h)) e
          refine ⟨items.length + 1 - (i + 1), by omega, h₆, tk₅, ys ++ [y], i + 1, rfl, (Wl A hA).frame _ _ _ hst₂ fun b hb' o e => k₆ b o (fun h => hfpD (h ▸ hb')) (k₅ b o (k₃ b o e)), ?_,
            ⟨_, (((hn₂.keeps k₃).keeps k₅).sameBut hs₆ (Ne.symm hCD))⟩, fun c e => ?_, fun b o e => k₆ b o (fun h => by rw [h, noHb _ (Nat.le_refl _)] at e; cases e) (k₅ b o (k₃ b o (kh₂ b o e))), ?_, by omega, rfl⟩
          · have e : ys.toArray.push y = (ys ++ [y]).toArray := by simp
            rw [← e]; exact hl₆
          · obtain ⟨v₀, hv⟩ := hce c e
            exact ⟨v₀, ((hv.keeps k₃).keeps k₅).sameBut hs₆ (Ne.symm (hcD c e))⟩
          · rw [hfull, List.filter_append]
            have := ((hys₂.stay (fun b o e => k₅ b o (k₃ b o e))).append (RepL.one r₄)).stayS seq6 _ _
            simpa [htp] using this
        · rw [List.size_toArray, hlen, List.length_map]
          exact Nat.le_trans (List.length_filter_le _ _) (Nat.le_trans (by rw [List.length_take]; omega) hsz)
    · have hin : i = items.length := by omega
      subst hin
      refine (Wl A hA).done _ _ _ hst' fun h₁ tk₁ hk₁ => ?_
      rw [List.take_length] at hys
      have kk : Stay hb h₁ := fun b o e => hk₁ b o (fun hw => by rw [hwr b hw] at e; cases e) (kh' b o e)
      have k02 : Keeps s { s₂ with heap := h₁, toks := tk₁ } := by
        obtain ⟨ha, ta, ea, ka⟩ := k₂
        subst ea
        exact ⟨h₁, tk₁, rfl, kb.trans kk⟩
      have hCs : s.heap.get? (D + 1) = none := by
        cases e : s.heap.get? (D + 1) with
        | none => rfl
        | some o => have := kb _ _ e; rw [noHb _ (Nat.le_succ _)] at this; cases this
      refine hfin D (D + 1) _ m' k02 ?_ (hn'.at' fun o e => hk₁ _ o hCw e) hCs (Ne.symm hCD)
      have hpl₂ : h₁.PlainList D ys.toArray := hpl'.at fun o e => hk₁ D o hDw e
      refine rep_list hpl₂ (fun hXD => ?_) ?_
      · obtain ⟨o, e⟩ := F.xs _ hXD
        have := kb _ _ e
        rw [noHb _ (Nat.le_refl _)] at this; cases this
      · have : RepL (fun a => X a ∨ a = D) h₁ ((items.filter t).map f) ys := hys.stayS (fun b o e hXb hseq => by
          obtain ⟨xs, n, hd⟩ := hseq
          have hbw : b ∉ wr ∨ b ∈ wr := Classical.em _ |>.symm
          rcases hbw with hbw | hbw
          · exact hk₁ b o hbw e
          · exact absurd hd (hseqW _ _ hst' b hbw o e xs n)) _ _
        exact this.less (fun a h => .inl h) _ _
  exact codeAny_compStart_list (loop _ rfl) ((Wl A hA).self 0 _ _ _ ((Wl A hA).frame 0 _ _ hst fun b _ o e => kD b o e) (loop _ rfl))

theorem ev_comp {elt iter : Expr} {x : Str} {px pos : Pos} {ifs : List Expr} {scope : Scope} {items : List PV} (f : PV → PV) (t : PV → Bool)
    (hit : It prog w τ A env ρ iter items)
    (hx : scope.names.lookup x = some .local ∨ scope.names.lookup x = some .cell) (ok : compOk scope env ρ x = true) (hkind : scope.kind = .function)
    (htest : ∀ p ∈ items, ∀ C cs, Tst prog w τ A (compEnvC scope cs C env) ((x, p) :: ρ) ifs (t p))
    (helt : ∀ p ∈ items, t p = true → ∀ C cs, Ev prog w τ A (compEnvC scope cs C env) ((x, p) :: ρ) elt (f p))
    (hA : A.handled = none) (hsz : items.length ≤ sizeLine) (hs : ∀ v, foldedSetIterable iter env v = pure v := by intro _; rfl) :
    Ev prog w τ A env ρ (.ListComp elt [⟨.Name x px, iter, ifs, 0⟩] scope pos) (.list ((items.filter t).map f)) := .mk fun X h₀ own s Q E F hQ => by
  show wpAny _ A (comprehension (.ListComp elt [⟨.Name x px, iter, ifs, 0⟩] scope pos) scope env _ (newList []) false (eval iter env)) Q E s
  refine comp_core f t F hit hx ok hkind htest helt hA hsz hs fun D C s' m k r hn hC hCD => ?_
  refine ⟨m, hn, fun h₂ hs₂ => ?_⟩
  have kC : ∀ b o, b ≠ C → s'.heap.get? b = some o → h₂.get? b = some o := fun b o hb e => sameBut_stay hs₂ b o hb e
  obtain ⟨h', tk, rfl, kk⟩ := k
  refine hQ _ _ ⟨h₂, tk, rfl, fun b o e => kC b o (fun h => by rw [h, hC] at e; cases e) (kk b o e)⟩ (r.stayS (fun b o e _ hseq => kC b o (fun h => ?_) e) _ _)
  subst h
  obtain ⟨xs, n, hd⟩ := hseq
  obtain ⟨o', es, n', ho', hd', _⟩ := hn
  rw [e] at ho'; cases ho'; rw [hd] at hd'; cases hd'

/-- every item -/
theorem ev_map {elt iter : Expr} {x : Str} {px pos : Pos} {scope : Scope} {items : List PV} (f : PV → PV)
    (hit : It prog w τ A env ρ iter items)
    (hx : scope.names.lookup x = some .local ∨ scope.names.lookup x = some .cell) (ok : compOk scope env ρ x = true) (hkind : scope.kind = .function)
    (helt : ∀ p ∈ items, ∀ C cs, Ev prog w τ A (compEnvC scope cs C env) ((x, p) :: ρ) elt (f p))
    (hA : A.handled = none) (hsz : items.length ≤ sizeLine) (hs : ∀ v, foldedSetIterable iter env v = pure v := by intro _; rfl) :
    Ev prog w τ A env ρ (.ListComp elt [⟨.Name x px, iter, [], 0⟩] scope pos) (.list (items.map f)) := by
  have := ev_comp (ifs := []) (px := px) (pos := pos) f (fun _ => true) hit hx ok hkind (fun p _ C cs => tst_nil) (fun p hp _ => helt p hp) hA hsz hs
  rw [List.filter_eq_self.mpr (fun _ _ => rfl)] at this
  exact this
end
end Mine

/-! V8 -/
namespace Mine
set_option linter.unusedVariables false
section
variable {prog : Program} {w : World} {τ : TopI} {A : Around} {env : Env} {ρ : List (Str × PV)}

theorem walks_bd {I : Addr} {fp wr : List Addr} {n : Nat} {P : Nat → Value → Prop} {St : Nat → Heap → Prop} (W : Walks prog w A I fp wr n P St) : Walks prog w A I fp wr n (fun i v => i < n ∧ P i v) St where
  sub := W.sub
  frame := W.frame
  item := fun i s Q E hi st hQ => W.item i s Q E hi st fun v h' tk p => hQ v h' tk ⟨hi, p⟩
  done := W.done
  self := W.self

theorem preSum_take (l : List Int) : ∀ n, n ≤ l.length → preSum (fun i => l.getD i 0) n = (l.take n).sum
  | 0, _ => by simp [preSum]
  | n + 1, h => by
    unfold preSum
    rw [preSum_take l n (by omega), List.take_add_one, List.sum_append]
    have : l[n]? = some l[n] := List.getElem?_eq_getElem (by omega)
    rw [List.getD_eq_getElem?_getD, this]
    simp

theorem int_at {X : Addr → Prop} {hb : Heap} {l : List Int} {i : Nat} {v : Value} {p : PV} (hp : (l.map PV.int)[i]? = some p) (hr : Rep X hb p v) : ∃ t, v = .int (l.getD i 0) t := by
  rw [List.getElem?_map] at hp
  cases hl : l[i]? with
  | none => rw [hl] at hp; cases hp
  | some x =>
    rw [hl] at hp; cases hp
    obtain ⟨t, rfl⟩ := hr.int
    exact ⟨t, by rw [List.getD_eq_getElem?_getD, hl]; rfl⟩

theorem ca_sum {l : List Int} (hA : A.handled = none) : Ca prog w τ A (.builtin "sum") [.list (l.map .int)] (.int l.sum) := ca1 fun X s a Q E T hX r hQ => by
  refine call_sum_walkAnyS (list_iter (A := A.in1) r fun it s₂ k W => ?_)
  obtain ⟨I, fp, wr, P, St, rfl, Wl, hst, hwr, hP, hfp, hsq, _⟩ := W
  have hn : (l.map PV.int).length = l.length := List.length_map _
  refine ⟨I, fp, wr, _, _, _, _, fun i => l.getD i 0, rfl, (walks_bd (Wl A.in1 hA)).toS, hst, fun b hb => by obtain ⟨o, e, _⟩ := hfp b hb; exact Heap.lt_size e, fun i v hv => ?_, fun s' t' hm => ?_⟩
  · obtain ⟨hi, hv⟩ := hv
    obtain ⟨p, hp, hr⟩ := hP i v hv hi
    exact int_at hp hr
  · rw [hn, preSum_take l _ (Nat.le_refl _), List.take_length]
    refine hQ _ _ ?_ rep_int
    obtain ⟨h2, t2, rfl, k2⟩ := k
    have e := hm.eq_with
    rw [e]
    exact ⟨s'.heap, s'.toks, rfl, fun b o eb => hm.heap b o (fun hw => by rw [hwr b hw] at eb; cases eb) (k2 b o eb)⟩

/-- the least, as it is found -/
def minI (l : List Int) : Int := l.getD (argBest (fun i j => decide (l.getD i 0 < l.getD j 0)) (l.length - 1)) 0
def maxI (l : List Int) : Int := l.getD (argBest (fun i j => decide (l.getD j 0 < l.getD i 0)) (l.length - 1)) 0

theorem ca_min {l : List Int} (hA : A.handled = none) (hl : 0 < l.length) : Ca prog w τ A (.builtin "min") [.list (l.map .int)] (.int (minI l)) := ca1 fun X s a Q E T hX r hQ => by
  refine call_min_walk (list_iter (A := A.in1) r fun it s₂ k W => ?_)
  obtain ⟨I, fp, wr, P, St, rfl, Wl, hst, hwr, hP, hfp, hsq, _⟩ := W
  have hn : (l.map PV.int).length = l.length := List.length_map _
  have val : ∀ i v, i < (l.map PV.int).length ∧ P i v → ∃ t, v = .int (l.getD i 0) t := fun i v hv => by
    obtain ⟨p, hp, hr⟩ := hP i v hv.2 hv.1
    exact int_at hp hr
  refine ⟨I, fp, wr, _, _, _, fun i j => decide (l.getD i 0 < l.getD j 0), rfl, walks_bd (Wl A.in1 hA), hst, fun b hb => by obtain ⟨o, e, _⟩ := hfp b hb; exact Heap.lt_size e, by rw [hn]; exact hl, fun i j vi vj s Q E hi hj hq => ?_, fun v h' tk hv hk => ?_⟩
  · obtain ⟨t, rfl⟩ := val i vi hi
    obtain ⟨u, rfl⟩ := val j vj hj
    exact lt_int hq
  · obtain ⟨t, rfl⟩ := val _ v hv
    rw [hn]
    obtain ⟨h2, t2, rfl, k2⟩ := k
    exact hQ _ _ ⟨h', tk, rfl, fun b o eb => hk b o (fun hw => by rw [hwr b hw] at eb; cases eb) (k2 b o eb)⟩ rep_int
theorem ca_max {l : List Int} (hA : A.handled = none) (hl : 0 < l.length) : Ca prog w τ A (.builtin "max") [.list (l.map .int)] (.int (maxI l)) := ca1 fun X s a Q E T hX r hQ => by
  refine call_max_walk (list_iter (A := A.in1) r fun it s₂ k W => ?_)
  obtain ⟨I, fp, wr, P, St, rfl, Wl, hst, hwr, hP, hfp, hsq, _⟩ := W
  have hn : (l.map PV.int).length = l.length := List.length_map _
  have val : ∀ i v, i < (l.map PV.int).length ∧ P i v → ∃ t, v = .int (l.getD i 0) t := fun i v hv => by
    obtain ⟨p, hp, hr⟩ := hP i v hv.2 hv.1
    exact int_at hp hr
  refine ⟨I, fp, wr, _, _, _, fun i j => decide (l.getD j 0 < l.getD i 0), rfl, walks_bd (Wl A.in1 hA), hst, fun b hb => by obtain ⟨o, e, _⟩ := hfp b hb; exact Heap.lt_size e, by rw [hn]; exact hl, fun i j vi vj s Q E hi hj hq => ?_, fun v h' tk hv hk => ?_⟩
  · obtain ⟨t, rfl⟩ := val i vi hi
    obtain ⟨u, rfl⟩ := val j vj hj
    exact gt_int hq
  · obtain ⟨t, rfl⟩ := val _ v hv
    rw [hn]
    obtain ⟨h2, t2, rfl, k2⟩ := k
    exact hQ _ _ ⟨h', tk, rfl, fun b o eb => hk b o (fun hw => by rw [hwr b hw] at eb; cases eb) (k2 b o eb)⟩ rep_int

theorem list_is (l : List PV) (X : Addr → Prop) (s : Shared) (v : Value) (r : Rep X s.heap (.list l) v) : s.TypeIs v "list" ∧ ∀ a : Addr, v = .ref a → ∃ ob, s.heap.get? a = some ob ∧ ob.dict = none := by
  obtain ⟨a, vs, rfl, ⟨⟨n, hl⟩, _⟩, _⟩ := r.list
  exact ⟨⟨_, hl, rfl⟩, fun b e => by cases e; exact ⟨_, hl, rfl⟩⟩
theorem ca_index {l : List Int} {k : Int} (hk : k ∈ l) (hlay : (PyData.list (l.map PyData.int)).layable0 = true) : Ca prog w τ A (.builtin "list.index") [.list (l.map .int), .int k] (.int (l.idxOf k)) := ca2 fun X s a b Q E T hX r r' hQ => by
  obtain ⟨a, vs, rfl, ⟨hl, _⟩, hr⟩ := r.list
  obtain ⟨t, rfl⟩ := r'.int
  exact index_list_ints hl.isList hr.ints hlay hk (hQ _ _ (ktok s _) rep_int)
end
end Mine

/-! V9 -/
namespace Mine
set_option linter.unusedVariables false

inductive Out where
  | next (ρ : List (Str × PV))
  | ret (p : PV)

/-- what a statement may do: the frame's own objects aside, all stays -/
def FK (own : List Str) (env : Env) (s s' : Shared) : Prop :=
  (∃ h tk, s' = { s with heap := h, toks := tk }) ∧ ∀ b o, s.heap.get? b = some o → b ≠ env.locals → (∀ x ∈ own, env.cells.lookup x ≠ some b) → s'.heap.get? b = some o

theorem fk_keeps {own : List Str} {env : Env} {s s' : Shared} (k : Keeps s s') : FK own env s s' := by
  obtain ⟨h, tk, rfl, k⟩ := k
  exact ⟨⟨h, tk, rfl⟩, fun b o e _ _ => k b o e⟩
theorem fk_refl {own : List Str} {env : Env} (s : Shared) : FK own env s s := fk_keeps (krefl s)
theorem fk_trans {own : List Str} {env : Env} {a b c : Shared} (x : FK own env a b) (y : FK own env b c) : FK own env a c := by
  obtain ⟨⟨h, t, rfl⟩, k⟩ := x
  obtain ⟨⟨h', t', rfl⟩, k'⟩ := y
  exact ⟨⟨h', t', rfl⟩, fun b o e h1 h2 => k' b o (k b o e h1 h2) h1 h2⟩

section
variable {prog : Program} {w : World} {τ : TopI} {A : Around} {own : List Str} {env : Env} {ρ : List (Str × PV)}

def Post (X : Addr → Prop) (τ : TopI) (h₀ : Heap) (own : List Str) (env : Env) (s : Shared) (o : Out) (Q : Flow → Shared → Prop) : Prop :=
  match o with
  | .next ρ' => ∀ s', FK own env s s' → FI X τ h₀ own env ρ' s'.heap → Q .next s'
  | .ret p => ∀ v s', FK own env s s' → Stay h₀ s'.heap → Rep X s'.heap p v → Q (.ret v) s'

structure Ex (prog : Program) (w : World) (τ : TopI) (A : Around) (own : List Str) (env : Env) (ρ : List (Str × PV)) (ss : List Stmt) (o : Out) : Prop where
  run : ∀ (X : Addr → Prop) (h₀ : Heap) (s : Shared) (Q : Flow → Shared → Prop) (E : Value → Shared → Prop), FI X τ h₀ own env ρ s.heap → Post X τ h₀ own env s o Q → wpAny (model prog w) A (execs ss env) Q E s
structure ExS (prog : Program) (w : World) (τ : TopI) (A : Around) (own : List Str) (env : Env) (ρ : List (Str × PV)) (st : Stmt) (o : Out) : Prop where
  run : ∀ (X : Addr → Prop) (h₀ : Heap) (s : Shared) (Q : Flow → Shared → Prop) (E : Value → Shared → Prop), FI X τ h₀ own env ρ s.heap → Post X τ h₀ own env s o Q → wpAny (model prog w) A (exec st env) Q E s

theorem Post.after {X : Addr → Prop} {h₀ : Heap} {s s₁ : Shared} {o : Out} {Q : Flow → Shared → Prop} (k : FK own env s s₁) (h : Post X τ h₀ own env s o Q) : Post X τ h₀ own env s₁ o Q := by
  cases o with
  | next ρ' => exact fun s' k' F => h s' (fk_trans k k') F
  | ret p => exact fun v s' k' st r => h v s' (fk_trans k k') st r

theorem ex_nil : Ex prog w τ A own env ρ [] (.next ρ) := .mk fun X h₀ s Q E F hQ => wpAny_execs_nil (hQ s (fk_refl s) F)
theorem ex_cons {st : Stmt} {rest : List Stmt} {ρ₁ : List (Str × PV)} {o : Out} (h1 : ExS prog w τ A own env ρ st (.next ρ₁)) (h2 : Ex prog w τ A own env ρ₁ rest o) : Ex prog w τ A own env ρ (st :: rest) o := .mk fun X h₀ s Q E F hQ =>
  wpAny_execs_cons (h1.run X h₀ s _ E F fun s₁ k₁ F₁ => h2.run X h₀ s₁ Q E F₁ (hQ.after k₁))
theorem ex_ret {st : Stmt} {rest : List Stmt} {p : PV} (h1 : ExS prog w τ A own env ρ st (.ret p)) : Ex prog w τ A own env ρ (st :: rest) (.ret p) := .mk fun X h₀ s Q E F hQ =>
  wpAny_execs_cons (h1.run X h₀ s _ E F hQ)
theorem FI.weak {X : Addr → Prop} {h₀ h : Heap} {ρ' : List (Str × PV)} (F : FI X τ h₀ own env ρ h) (hw : ∀ y q, ρ'.lookup y = some q → ρ.lookup y = some q) : FI X τ h₀ own env ρ' h where
  t := F.t
  xs := F.xs
  keep := F.keep
  fresh := F.fresh
  freshC := F.freshC
  glob := F.glob
  blt := F.blt
  fn := F.fn
  L := let ⟨m, n, H⟩ := F.L; ⟨m, n, fun x p e k => H x p (hw x p e) k⟩
  C := fun x p e k => F.C x p (hw x p e) k
  cs := F.cs
  inj := F.inj
theorem ex_weak {ss : List Stmt} {ρ₁ ρ₂ : List (Str × PV)} (h : Ex prog w τ A own env ρ ss (.next ρ₁)) (hw : ∀ y q, ρ₂.lookup y = some q → ρ₁.lookup y = some q) : Ex prog w τ A own env ρ ss (.next ρ₂) :=
  .mk fun X h₀ s Q E F hQ => h.run X h₀ s Q E F fun s' k F' => hQ s' k (F'.weak hw)
theorem ex_pre {ss : List Stmt} {ρ₁ : List (Str × PV)} {o : Out} (h : Ex prog w τ A own env ρ₁ ss o) (hw : ∀ y q, ρ₁.lookup y = some q → ρ.lookup y = some q) : Ex prog w τ A own env ρ ss o :=
  .mk fun X h₀ s Q E F hQ => h.run X h₀ s Q E (F.weak hw) hQ
theorem ev_weak {e : Expr} {p : PV} {ρ₁ : List (Str × PV)} (h : Ev prog w τ A env ρ₁ e p) (hw : ∀ y q, ρ₁.lookup y = some q → ρ.lookup y = some q) : Ev prog w τ A env ρ e p :=
  .mk fun X h₀ own s Q E F hQ => h.run X h₀ own s Q E (F.weak hw) hQ

theorem ns_noseq {h : Heap} {L : Addr} {m : Str → Option Value} (n : h.Ns L m) {o : Obj} (e : h.get? L = some o) : ∀ xs k, o.data ≠ .seq xs k := fun xs k hd => by
  obtain ⟨o', es, n', ho', hd', _⟩ := n
  rw [e] at ho'; cases ho'; rw [hd] at hd'; cases hd'
theorem ns_nocell {h : Heap} {L : Addr} {m : Str → Option Value} (n : h.Ns L m) {v : Option Value} (c : h.IsCell L v) : False := by
  obtain ⟨o', es, n', ho', hd', _⟩ := n
  obtain ⟨o, ho, hd⟩ := c
  rw [ho] at ho'; cases ho'; rw [hd] at hd'; cases hd'

/-- storing a local -/
theorem FI.setL {X : Addr → Prop} {h₀ h h' : Heap} {x : Str} {p : PV} {v : Value} {m : Str → Option Value} (F : FI X τ h₀ own env ρ h) (hn : h.Ns env.locals m) (hm : ∀ x p, ρ.lookup x = some p → env.kindOf x = some .local → ∃ v, m x = some v ∧ Rep X h p v)
    (hk : env.kindOf x = some .local) (r : Rep X h p v) (hn' : h'.Ns env.locals fun y => if y = x then some v else m y) (hs : Heap.SameBut env.locals h h') : FI X τ h₀ own env ((x, p) :: ρ) h' := by
  have k : ∀ b o, b ≠ env.locals → h.get? b = some o → h'.get? b = some o := sameBut_stay hs
  have kS : StayS X h h' := fun b o e _ hseq => k b o (fun hb => by subst hb; obtain ⟨xs, n, hd⟩ := hseq; exact ns_noseq hn e xs n hd) e
  have kc : ∀ c u, h.IsCell c u → h'.IsCell c u := fun c u hc => hc.sameBut hs (fun e => by subst e; exact ns_nocell hn hc)
  have k0 : Stay h₀ h' := fun b o e => k b o (fun hb => by subst hb; rw [F.fresh] at e; cases e) (F.keep b o e)
  refine ⟨?_, ?_, k0, F.fresh, F.freshC, F.glob, F.blt, F.fn, ⟨_, hn', fun y q hy hky => ?_⟩, fun y q hy hky => ?_, fun y hy => ?_, F.inj⟩
  · exact F.t
  · exact fun a ha => by
      obtain ⟨o, e⟩ := F.xs a ha
      by_cases hb : a = env.locals
      · subst hb
        obtain ⟨o', _, _, ho', _⟩ := hn'
        exact ⟨o', ho'⟩
      · exact ⟨o, k a o hb e⟩
  · rw [List.lookup_cons] at hy
    cases hyx : y == x with
    | true =>
      rw [hyx] at hy; cases hy
      rw [beq_iff_eq] at hyx
      exact ⟨v, by rw [if_pos hyx], r.stayS kS _ _⟩
    | false =>
      rw [hyx] at hy
      obtain ⟨u, hu, hr⟩ := hm y q hy hky
      have hne : y ≠ x := fun e => by subst e; simp at hyx
      exact ⟨u, by rw [if_neg hne]; exact hu, hr.stayS kS _ _⟩
  · rw [List.lookup_cons] at hy
    cases hyx : y == x with
    | true =>
      rw [beq_iff_eq] at hyx; subst hyx
      rw [hk] at hky; rcases hky with h | h <;> cases h
    | false =>
      rw [hyx] at hy
      obtain ⟨c, u, e, hc, hr⟩ := F.C y q hy hky
      exact ⟨c, u, e, kc c _ hc, hr.stayS kS _ _⟩
  · obtain ⟨e, c, u, hc, hcc⟩ := F.cs y hy
    exact ⟨e, c, u, hc, kc c _ hcc⟩
end
end Mine

/-! V10 -/
namespace Mine
set_option linter.unusedVariables false
section
variable {prog : Program} {w : World} {τ : TopI} {A : Around} {own : List Str} {env : Env} {ρ : List (Str × PV)}

/-- storing a cell of the frame's own -/
theorem FI.setC {X : Addr → Prop} {h₀ h h' : Heap} {x : Str} {p : PV} {v : Value} {c : Addr} {v₀ : Option Value} (F : FI X τ h₀ own env ρ h) (ho : x ∈ own) (hcl : env.cells.lookup x = some c) (hc : h.IsCell c v₀)
    (r : Rep X h p v) (hc' : h'.IsCell c (some v)) (hs : Heap.SameBut c h h') : FI X τ h₀ own env ((x, p) :: ρ) h' := by
  have k : ∀ b o, b ≠ c → h.get? b = some o → h'.get? b = some o := sameBut_stay hs
  have kS : StayS X h h' := fun b o e _ hseq => k b o (fun hb => by
    subst hb; obtain ⟨xs, n, hd⟩ := hseq; obtain ⟨o', ho', hd'⟩ := hc; rw [e] at ho'; cases ho'; rw [hd] at hd'; cases hd') e
  have k0 : Stay h₀ h' := fun b o e => k b o (fun hb => by subst hb; rw [F.freshC x b ho hcl] at e; cases e) (F.keep b o e)
  refine ⟨F.t, ?_, k0, F.fresh, F.freshC, F.glob, F.blt, F.fn, ?_, fun y q hy hky => ?_, fun y hy => ?_, F.inj⟩
  · exact fun a ha => by
      obtain ⟨o, e⟩ := F.xs a ha
      by_cases hb : a = c
      · subst hb
        obtain ⟨o', ho', _⟩ := hc'
        exact ⟨o', ho'⟩
      · exact ⟨o, k a o hb e⟩
  · obtain ⟨m, n, H⟩ := F.L
    refine ⟨m, n.sameBut hs (fun e => by subst e; exact ns_nocell n hc), fun y q hy hky => ?_⟩
    rw [List.lookup_cons] at hy
    cases hyx : y == x with
    | true =>
      rw [beq_iff_eq] at hyx; subst hyx
      rw [(F.cs y ho).1] at hky; cases hky
    | false =>
      rw [hyx] at hy
      obtain ⟨u, hu, hr⟩ := H y q hy hky
      exact ⟨u, hu, hr.stayS kS _ _⟩
  · rw [List.lookup_cons] at hy
    cases hyx : y == x with
    | true =>
      rw [hyx] at hy; cases hy
      rw [beq_iff_eq] at hyx; subst hyx
      exact ⟨c, v, hcl, hc', r.stayS kS _ _⟩
    | false =>
      rw [hyx] at hy
      obtain ⟨d, u, e, hd, hr⟩ := F.C y q hy hky
      have hne : d ≠ c := fun h => by
        subst h
        have := F.inj y x d e hcl
        subst this; simp at hyx
      exact ⟨d, u, e, hd.sameBut hs hne, hr.stayS kS _ _⟩
  · obtain ⟨e, d, u, hd, hdc⟩ := F.cs y hy
    refine ⟨e, d, ?_⟩
    by_cases hdc' : d = c
    · subst hdc'; exact ⟨_, hd, hc'⟩
    · exact ⟨u, hd, hdc.sameBut hs hdc'⟩

/-- where a name may be stored -/
def Sto (own : List Str) (env : Env) (x : Str) : Prop := env.kindOf x = some .local ∨ x ∈ own

theorem store_ {X : Addr → Prop} {h₀ : Heap} {s : Shared} {x : Str} {p : PV} {v : Value} {Q : Unit → Shared → Prop} {E : Value → Shared → Prop} (F : FI X τ h₀ own env ρ s.heap) (hx : Sto own env x) (r : Rep X s.heap p v)
    (hQ : ∀ s', FK own env s s' → FI X τ h₀ own env ((x, p) :: ρ) s'.heap → Q () s') : wpAny (model prog w) A (storeName env x v) Q E s := by
  rcases hx with hk | ho
  · obtain ⟨m, n, H⟩ := F.L
    refine wpAny_storeName_local hk n (fun h' hn' hs => ?_) (by rw [F.fn]; rfl)
    exact hQ _ ⟨⟨h', _, rfl⟩, fun b o e h1 _ => sameBut_stay hs b o h1 e⟩ (F.setL n H hk r hn' hs)
  · obtain ⟨hk, c, v₀, hcl, hc⟩ := F.cs x ho
    refine wpAny_storeName_cell F.fn hk hcl hc fun h' hc' hs => ?_
    exact hQ _ ⟨⟨h', s.toks, rfl⟩, fun b o e _ h2 => sameBut_stay hs b o (fun e' => h2 x ho (e' ▸ hcl)) e⟩ (F.setC ho hcl hc r hc' hs)

theorem FI.fk {X : Addr → Prop} {h₀ : Heap} {s s' : Shared} (F : FI X τ h₀ own env ρ s.heap) (k : Keeps s s') : FI X τ h₀ own env ρ s'.heap := F.stay (Keepsl k)

theorem exs_assign {x : Str} {px pos : Pos} {value : Expr} {p : PV} (he : Ev prog w τ A env ρ value p) (hx : Sto own env x) (hsw : swapsWith value (some (.Name x px)) pos.line env = pure false := by rfl) :
    ExS prog w τ A own env ρ (.Assign [.Name x px] value pos) (.next ((x, p) :: ρ)) := .mk fun X h₀ s Q E F hQ =>
  wpAny_Assign_Name (he.run X h₀ own s _ E F fun v s₁ k₁ r₁ => store_ (F.fk k₁) hx r₁ fun s₂ k₂ F₂ => hQ s₂ (fk_trans (fk_keeps k₁) k₂) F₂) hsw

/-- a comprehension laid to a local name -/
theorem exs_comp {y : Str} {py spos : Pos} {elt iter : Expr} {x : Str} {px pos : Pos} {ifs : List Expr} {scope : Scope} {items : List PV} (f : PV → PV) (t : PV → Bool)
    (hit : It prog w τ A env ρ iter items)
    (hx : scope.names.lookup x = some .local ∨ scope.names.lookup x = some .cell) (ok : compOk scope env ρ x = true) (hkind : scope.kind = .function)
    (htest : ∀ p ∈ items, ∀ C cs, Tst prog w τ A (compEnvC scope cs C env) ((x, p) :: ρ) ifs (t p))
    (helt : ∀ p ∈ items, t p = true → ∀ C cs, Ev prog w τ A (compEnvC scope cs C env) ((x, p) :: ρ) elt (f p))
    (hA : A.handled = none) (hsz : items.length ≤ sizeLine) (hy : Sto own env y) (hsw : swapsWith (.ListComp elt [⟨.Name x px, iter, ifs, 0⟩] scope pos) (some (.Name y py)) spos.line env = pure true := by rfl)
    (hs : ∀ v, foldedSetIterable iter env v = pure v := by intro _; rfl) :
    ExS prog w τ A own env ρ (.Assign [.Name y py] (.ListComp elt [⟨.Name x px, iter, ifs, 0⟩] scope pos) spos) (.next ((y, .list ((items.filter t).map f)) :: ρ)) := .mk fun X h₀ s Q E F hQ => by
  rw [exec_Assign_Name_used _ _ _ _ hsw]
  refine wpAny_bind (wpAny_standAt (wpAny_bind ?_))
  show wpAny _ A (do let _ ← comprehension (.ListComp elt [⟨.Name x px, iter, ifs, 0⟩] scope pos) scope env _ (newList []) false (eval iter env) (some (assign (.Name y py) env))) _ _ s
  refine wpAny_bind (comp_core f t F hit hx ok hkind htest helt hA hsz hs fun D C s' m k r hn hC hCD => ?_)
  show wpAny _ A (assign (.Name y py) env (.ref D)) _ E s'
  refine wpAny_assign_Name (store_ (F.fk k) hy r fun s₂ k₂ F₂ => ?_)
  have hLC : C ≠ env.locals := fun e => by
    obtain ⟨m', n, _⟩ := F.L
    obtain ⟨o, es, ep, ho, _⟩ := n
    rw [← e, hC] at ho; cases ho
  have hcC : ∀ z ∈ own, env.cells.lookup z ≠ some C := fun z hz e => by
    obtain ⟨_, c, v₀, e', hc⟩ := F.cs z hz
    rw [e] at e'; cases e'
    obtain ⟨o, ho, _⟩ := hc
    rw [hC] at ho; cases ho
  have hn₂ : s₂.heap.Ns C m := hn.at' fun o e => k₂.2 _ o e hLC hcC
  refine ⟨m, hn₂, fun h₃ hs₃ => wpAny_pure (wpAny_pure ?_)⟩
  have k3 : ∀ b o, b ≠ C → s₂.heap.get? b = some o → h₃.get? b = some o := sameBut_stay hs₃
  obtain ⟨⟨h2, t2, e2⟩, kk2⟩ := k₂
  obtain ⟨h1, t1, e1, kk1⟩ := k
  subst e1
  subst e2
  refine hQ _ ⟨⟨h₃, t2, rfl⟩, fun b o e q1 q2 => k3 b o (fun h => by rw [h, hC] at e; cases e) (kk2 b o (kk1 b o e) q1 q2)⟩ ?_
  -- the frame's facts, C aside
  have kS : StayS X h2 h₃ := fun b o e _ hseq => k3 b o (fun hb => by
    subst hb; obtain ⟨xs, n, hd⟩ := hseq; exact ns_noseq hn₂ e xs n hd) e
  have kcell : ∀ c u, h2.IsCell c u → h₃.IsCell c u := fun c u hc => hc.sameBut hs₃ (fun e => by subst e; exact ns_nocell hn₂ hc)
  have noC0 : h₀.get? C = none := by
    cases e : h₀.get? C with
    | none => rfl
    | some o => have := F.keep _ _ e; rw [hC] at this; cases this
  refine ⟨F₂.t, fun a ha => ?_, fun b o e => k3 b o (fun h => by rw [h, noC0] at e; cases e) (F₂.keep b o e), F₂.fresh, F₂.freshC, F₂.glob, F₂.blt, F₂.fn, ?_, fun z q hz hk => ?_, fun z hz => ?_, F₂.inj⟩
  · obtain ⟨o, e⟩ := F₂.xs a ha
    obtain ⟨o', e'⟩ := F.xs a ha
    exact ⟨o, k3 a o (fun h => by rw [h, hC] at e'; cases e') e⟩
  · obtain ⟨m', n', H⟩ := F₂.L
    refine ⟨m', n'.sameBut hs₃ (Ne.symm hLC), fun z q hz hk => ?_⟩
    obtain ⟨u, hu, hr⟩ := H z q hz hk
    exact ⟨u, hu, hr.stayS kS _ _⟩
  · obtain ⟨c, u, e, hc, hr⟩ := F₂.C z q hz hk
    exact ⟨c, u, e, kcell c _ hc, hr.stayS kS _ _⟩
  · obtain ⟨e, c, u, hc, hcc⟩ := F₂.cs z hz
    exact ⟨e, c, u, hc, kcell c _ hcc⟩

/-- a step in place -/
structure Io (prog : Program) (w : World) (A : Around) (op : Operator) (p q r : PV) : Prop where
  run : ∀ (X : Addr → Prop) (s : Shared) (a b : Value) (Q : Value → Shared → Prop) (E : Value → Shared → Prop), (∀ a, X a → ∃ o, s.heap.get? a = some o) → Rep X s.heap p a → Rep X s.heap q b →
    (∀ v s', Keeps s s' → Rep X s'.heap r v → Q v s') → wpAny (model prog w) A (inplaceOp op a b) Q E s
theorem io_add {a b : Int} : Io prog w A .Add (.int a) (.int b) (.int (a + b)) := .mk fun X s _ _ Q E hX ra rb hQ => by
  obtain ⟨t, rfl⟩ := ra.int; obtain ⟨u, rfl⟩ := rb.int
  exact P.iadd_int (hQ _ _ (ktok s _) rep_int)
theorem io_sub {a b : Int} : Io prog w A .Sub (.int a) (.int b) (.int (a - b)) := .mk fun X s _ _ Q E hX ra rb hQ => by
  obtain ⟨t, rfl⟩ := ra.int; obtain ⟨u, rfl⟩ := rb.int
  exact P.isub_int (hQ _ _ (ktok s _) rep_int)
theorem io_shl {a b : Int} (hn : 0 ≤ b) (hsz : (Builtin.Int.intBits a : Int) + b ≤ 2 ^ 27) : Io prog w A .LShift (.int a) (.int b) (.int (a * 2 ^ b.toNat)) := .mk fun X s _ _ Q E hX ra rb hQ => by
  obtain ⟨t, rfl⟩ := ra.int; obtain ⟨u, rfl⟩ := rb.int
  exact ilshift_int hn hsz (hQ _ _ (ktok s _) rep_int)
theorem io_or {a b : Int} : Io prog w A .BitOr (.int a) (.int b) (.int (Builtin.bitOr a b)) := .mk fun X s _ _ Q E hX ra rb hQ => by
  obtain ⟨t, rfl⟩ := ra.int; obtain ⟨u, rfl⟩ := rb.int
  exact ior_int (hQ _ _ (ktok s _) rep_int)
theorem io_cat {x y : Str} (hl : x.length + y.length ≤ sizeLine) : Io prog w A .Add (.str x) (.str y) (.str (x ++ y)) := .mk fun X s _ _ Q E hX ra rb hQ => by
  obtain ⟨t, rfl⟩ := ra.str; obtain ⟨u, rfl⟩ := rb.str
  exact SB.iadd (fun t' k => hQ _ _ (ktok s _) rep_str) hl

/-- a name read by itself -/
structure Ld (prog : Program) (w : World) (τ : TopI) (A : Around) (env : Env) (ρ : List (Str × PV)) (x : Str) (p : PV) : Prop where
  run : ∀ (X : Addr → Prop) (h₀ : Heap) (own : List Str) (s : Shared) (Q : Value → Shared → Prop) (E : Value → Shared → Prop), FI X τ h₀ own env ρ s.heap →
    (∀ v s', Keeps s s' → Rep X s'.heap p v → Q v s') → wpAny (model prog w) A (loadName env x) Q E s
theorem ld_local {x : Str} {p : PV} (hρ : ρ.lookup x = some p) (hk : env.kindOf x = some .local) : Ld prog w τ A env ρ x p := .mk fun X h₀ own s Q E F hQ => by
  obtain ⟨m, n, H⟩ := F.L
  obtain ⟨v, e, r⟩ := H x p hρ hk
  exact wpAny_loadName_local F.fn hk n e (hQ v s (krefl s) r)
theorem ld_cell {x : Str} {p : PV} (hρ : ρ.lookup x = some p) (hk : env.kindOf x = some .cell) : Ld prog w τ A env ρ x p := .mk fun X h₀ own s Q E F hQ => by
  obtain ⟨c, v, e, hc, r⟩ := F.C x p hρ (.inl hk)
  exact wpAny_loadName_cell F.fn hk e hc (hQ v s (krefl s) r)

theorem exs_aug {x : Str} {px pos : Pos} {op : Operator} {value : Expr} {p q r : PV} (hl : Ld prog w τ A env ρ x p) (he : Ev prog w τ A env ρ value q) (hop : Io prog w A op p q r) (hx : Sto own env x) :
    ExS prog w τ A own env ρ (.AugAssign (.Name x px) op value pos) (.next ((x, r) :: ρ)) := .mk fun X h₀ s Q E F hQ =>
  wpAny_AugAssign_Name (hl.run X h₀ own s _ E F fun a s₁ k₁ r₁ => he.run X h₀ own s₁ _ E (F.fk k₁) fun b s₂ k₂ r₂ => hop.run X s₂ a b _ E (F.fk (ktrans k₁ k₂)).xs (r₁.stay (Keepsl k₂)) r₂ fun v s₃ k₃ r₃ =>
    store_ (F.fk (ktrans k₁ (ktrans k₂ k₃))) hx r₃ fun s₄ k₄ F₄ => hQ s₄ (fk_trans (fk_keeps (ktrans k₁ (ktrans k₂ k₃))) k₄) F₄)

theorem exs_if {test : Expr} {body orelse : List Stmt} {pos : Pos} {b : Bool} {o : Out} (ht : Tr prog w τ A env ρ test b) (hb : b = true → Ex prog w τ A own env ρ body o) (ho : b = false → Ex prog w τ A own env ρ orelse o) :
    ExS prog w τ A own env ρ (.If test body orelse pos) o := .mk fun X h₀ s Q E F hQ =>
  wpAny_If (ht.run X h₀ own s _ E F fun s₁ k₁ => by
    cases b with
    | true => exact (hb rfl).run X h₀ s₁ Q E (F.fk k₁) (hQ.after (fk_keeps k₁))
    | false => exact (ho rfl).run X h₀ s₁ Q E (F.fk k₁) (hQ.after (fk_keeps k₁)))

theorem exs_return {e : Expr} {pos : Pos} {p : PV} (he : Ev prog w τ A env ρ e p) : ExS prog w τ A own env ρ (.Return (some e) pos) (.ret p) := .mk fun X h₀ s Q E F hQ =>
  wpAny_Return_some (he.run X h₀ own s _ E F fun v s₁ k₁ r₁ => hQ v s₁ (fk_keeps k₁) (F.keep.trans (Keepsl k₁)) r₁)

theorem exs_assert {test : Expr} {pos : Pos} (hA : A.handled = none) (ht : Tr prog w τ A env ρ test true) : ExS prog w τ A own env ρ (.Assert test none pos) (.next ρ) := .mk fun X h₀ s Q E F hQ =>
  wpAny_Assert hA (ht.run X h₀ own s _ E F fun s₁ k₁ => by rw [if_pos rfl]; exact hQ s₁ (fk_keeps k₁) (F.fk k₁))
end
end Mine

/-! V11 -/
namespace Mine
set_option linter.unusedVariables false
section
variable {prog : Program} {w : World} {τ : TopI} {A : Around} {own : List Str} {env : Env} {ρ : List (Str × PV)}

/-- room for k calls within one another -/
structure Room (k : Nat) (A : Around) : Prop where
  handled : A.handled = none
  depth : A.depth + k < recursionLimit
  units : A.units + 8 * k < cLine
theorem Room.deeper {k : Nat} {A : Around} {env : Env} (r : Room (k + 1) A) : Room k (A.deeper env) := ⟨r.handled, by
  have := r.depth
  show A.depth + 1 + k < recursionLimit
  omega, by
  have := r.units
  show A.units + 3 + 8 * k < cLine
  omega⟩

/-- a def of the text's as it stands in the heap -/
def FnIs (τ : TopI) (a : Addr) (name : Str) (params : Arguments) (body : List Stmt) (scope : Scope) : Prop :=
  ∀ h, τ.T h → ∃ o pm cd doc, h.get? a = some o ∧ o.data = .func { name := name, qualname := name, params := params, body := .stmts body, scope := scope, globals := mainGlobals, closure := [], defaults := .none, kwdefaults := .none, doc := doc, pyModule := pm, code := cd, builtins := builtinsNs } ∧ h.CodeRec cd name
theorem FnIs.isFn {a : Addr} {name : Str} {params : Arguments} {body : List Stmt} {scope : Scope} (h : FnIs τ a name params body scope) : IsFn τ a := fun hp T => by
  obtain ⟨o, pm, cd, doc, ho, hd, _⟩ := h hp T
  exact ⟨o, _, ho, hd⟩

/-- the frame of a def -/
def fenv (name : Str) (scope : Scope) (a : Addr) (L : Addr) (cd : Value) (cells : List (Str × Addr)) : Env :=
  { scope := scope, locals := L, globals := mainGlobals, cells := cells, qual := name ++ ".<locals>.", func := some a, code := cd, frame := some L, builtins := builtinsNs }

def ownOf (scope : Scope) : List Str := scope.names.filterMap fun y => if y.2 == .cell then some y.1 else none

theorem ownOf_mem {scope : Scope} {x : Str} : x ∈ ownOf scope ↔ (x, NameKind.cell) ∈ scope.names := by
  unfold ownOf
  rw [List.mem_filterMap]
  constructor
  · rintro ⟨⟨y, k⟩, hy, he⟩
    dsimp only at he
    split at he
    · rename_i hk
      cases he
      rw [beq_iff_eq] at hk; subst hk; exact hy
    · cases he
  · intro h
    exact ⟨(x, .cell), h, by simp⟩

/-- the names of a def's scope, each once -/
def uniq (scope : Scope) : Bool := scope.names.all fun y => scope.names.lookup y.1 == some y.2
theorem uniq_at {scope : Scope} (h : uniq scope = true) {y : Str} {k : NameKind} (hy : (y, k) ∈ scope.names) : scope.names.lookup y = some k := by
  simpa using List.all_eq_true.mp h (y, k) hy

theorem bindL_spec (kindOf : Str → Option NameKind) : ∀ (binds : List (Str × Value)) (m : Str → Option Value) (x : Str), (∀ y ∈ binds, y.1 ≠ x) → bindL kindOf binds m x = m x
  | [], _, _, _ => rfl
  | (n, v) :: r, m, x, h => by
    unfold bindL
    rw [bindL_spec kindOf r _ x fun y hy => h y (List.mem_cons_of_mem _ hy)]
    split
    · exact if_neg (fun e : x = n => h (n, v) List.mem_cons_self e.symm)
    · rfl
theorem bindC_spec (kindOf : Str → Option NameKind) : ∀ (binds : List (Str × Value)) (m : Str → Option Value) (x : Str), (∀ y ∈ binds, y.1 ≠ x) → bindC kindOf binds m x = m x
  | [], _, _, _ => rfl
  | (n, v) :: r, m, x, h => by
    unfold bindC
    rw [bindC_spec kindOf r _ x fun y hy => h y (List.mem_cons_of_mem _ hy)]
    split
    · rfl
    · exact if_neg (fun e : x = n => h (n, v) List.mem_cons_self e.symm)
theorem bindL_at (kindOf : Str → Option NameKind) : ∀ (binds : List (Str × Value)) (m : Str → Option Value) {x : Str} {v : Value}, (binds.map (·.1)).Nodup → (x, v) ∈ binds → kindOf x = some .local → bindL kindOf binds m x = some v
  | (n, u) :: r, m, x, v, hd, hm, hk => by
    rw [List.map_cons, List.nodup_cons] at hd
    unfold bindL
    rcases List.mem_cons.mp hm with e | hm
    · cases e
      rw [bindL_spec kindOf r _ _ fun y hy e => hd.1 (List.mem_map.mpr ⟨y, hy, e⟩), if_pos hk]
      simp
    · exact bindL_at kindOf r _ hd.2 hm hk
theorem bindC_at (kindOf : Str → Option NameKind) : ∀ (binds : List (Str × Value)) (m : Str → Option Value) {x : Str} {v : Value}, (binds.map (·.1)).Nodup → (x, v) ∈ binds → kindOf x = some .cell → bindC kindOf binds m x = some v
  | (n, u) :: r, m, x, v, hd, hm, hk => by
    rw [List.map_cons, List.nodup_cons] at hd
    unfold bindC
    rcases List.mem_cons.mp hm with e | hm
    · cases e
      rw [bindC_spec kindOf r _ _ fun y hy e => hd.1 (List.mem_map.mpr ⟨y, hy, e⟩), if_neg (by rw [hk]; simp)]
      simp
    · exact bindC_at kindOf r _ hd.2 hm hk

theorem RepL.zip {X : Addr → Prop} {h : Heap} : ∀ {names : List Str} {ps : List PV} {vs : List Value}, RepL X h ps vs → ∀ {x : Str} {p : PV}, (names.zip ps).lookup x = some p → ∃ v, (x, v) ∈ names.zip vs ∧ Rep X h p v
  | [], _, _, _, x, p, e => by simp at e
  | _ :: _, [], _, _, x, p, e => by simp at e
  | n :: ns, q :: ps, _, r, x, p, e => by
    unfold RepL at r
    obtain ⟨v, vs', rfl, hq, hr⟩ := r
    rw [List.zip_cons_cons, List.lookup_cons] at e
    rw [List.zip_cons_cons]
    cases hb : x == n with
    | true =>
      rw [hb] at e; cases e
      rw [beq_iff_eq] at hb; subst hb
      exact ⟨v, List.mem_cons_self, hq⟩
    | false =>
      rw [hb] at e
      obtain ⟨u, hu, hr'⟩ := RepL.zip hr e
      exact ⟨u, List.mem_cons_of_mem _ hu, hr'⟩

/-- calling a def -/
theorem ca_def {k : Nat} {a : Addr} {name : Str} {params : Arguments} {body : List Stmt} {scope : Scope} {ps : List PV} {r : PV} (hR : Room (k + 1) A) (hf : FnIs τ a name params body scope)
    (names : List Str) (hlen : names.length = ps.length)
    (hbind : ∀ (pm cd doc : Value) (vs : List Value), vs.length = names.length → bindArgs { name := name, qualname := name, params := params, body := .stmts body, scope := scope, globals := mainGlobals, closure := [], defaults := .none, kwdefaults := .none, doc := doc, pyModule := pm, code := cd, builtins := builtinsNs } ⟨vs, []⟩ = pure (names.zip vs))
    (hnd : names.Nodup) (hnames : ∀ x ∈ names, scope.names.lookup x = some .local ∨ scope.names.lookup x = some .cell) (hu : uniq scope = true)
    (hbody : ∀ (A' : Around) L cd cells, Room k A' → Ex prog w τ A' (ownOf scope) (fenv name scope a L cd cells) (names.zip ps) body (.ret r))
    (hk : scope.kind = .function := by rfl) (hco : scope.isCoroutine = false := by rfl) (hgen : scope.isGenerator = false := by rfl) : Ca prog w τ A (.ref a) ps r := .mk fun X s vs Q E T hX hr hQ => by
  obtain ⟨o, pm, cd, doc, ho, hd, hcd⟩ := hf _ T
  refine wpAny_call (codeAny_call_function (Nat.lt_of_le_of_lt (Nat.le_add_right _ _) hR.depth) ho hd hco hgen rfl hcd ?_)
  have hvl : vs.length = names.length := by rw [hr.length, hlen]
  rw [hbind pm cd doc vs hvl]
  have hmem : ∀ x ∈ names.zip vs, x.1 ∈ names := fun x hx => (List.of_mem_zip (a := x.1) (b := x.2) hx).1
  have hmap : (names.zip vs).map (·.1) = names := List.map_fst_zip (by rw [hvl]; exact Nat.le_refl _)
  refine wpAny_pure (wpAny_newFunctionEnv_cells hk (fun x hx => ?_) fun env henv s' hs' => ?_)
  · rcases hnames x.1 (hmem x hx) with h | h
    · exact .inl h
    · right
      obtain ⟨c, e⟩ := cells_has scope.names (s.heap.objs.size + 1) (mem_of_lookup h)
      exact ⟨h, by rw [e]; rfl⟩
  · obtain ⟨L, hL⟩ : ∃ L, env.locals = L := ⟨_, rfl⟩
    have henv' : env = fenv name scope a s.heap.objs.size cd (cellsFrom (s.heap.objs.size + 1) scope.names []) := henv
    clear henv
    subst henv'
    obtain ⟨hin, hcell, hap, habove⟩ := hs'
    obtain ⟨⟨h₁, tk, rfl⟩, hns, hkeep, _⟩ := hin
    refine ⟨(τ.lim _ T).at fun o e => hkeep _ o e, ?_⟩
    refine codeAny_func ((hbody _ s.heap.objs.size cd _ hR.deeper).run X s.heap _ _ _ ?_ fun v s₂ k₂ st hv => hQ v s₂ ?_ hv)
    · have ksz : ∀ c, s.heap.objs.size ≤ c → s.heap.get? c = none := fun c hc => get_none hc
      refine ⟨T, fun a ha => let ⟨o, e⟩ := hX a ha; ⟨o, hkeep _ _ e⟩, hkeep, ksz _ (Nat.le_refl _), fun x c hx hc => ksz c (Nat.le_of_lt (habove x c (mem_of_lookup hc))), rfl, rfl, hk, ⟨_, hns, fun x p hx hkx => ?_⟩, fun x p hx hkx => ?_, fun x hx => ?_, fun x y c hx hy => name_of_addr hap (mem_of_lookup hx) (mem_of_lookup hy)⟩
      · obtain ⟨v, hv, hrv⟩ := hr.zip hx
        exact ⟨v, bindL_at _ _ _ (by rw [hmap]; exact hnd) hv hkx, hrv.stay hkeep⟩
      · obtain ⟨v, hv, hrv⟩ := hr.zip hx
        have hkc : (fenv name scope a s.heap.objs.size cd (cellsFrom (s.heap.objs.size + 1) scope.names [])).kindOf x = some .cell := by
          rcases hnames x (hmem _ hv) with h | h
          · have h' : (fenv name scope a s.heap.objs.size cd (cellsFrom (s.heap.objs.size + 1) scope.names [])).kindOf x = some .local := h
            rw [h'] at hkx; rcases hkx with h | h <;> cases h
          · exact h
        obtain ⟨c, e⟩ := cells_has scope.names (s.heap.objs.size + 1) (mem_of_lookup hkc)
        refine ⟨c, v, e, ?_, hrv.stay hkeep⟩
        have := hcell x c e
        rwa [bindC_at _ _ _ (by rw [hmap]; exact hnd) hv hkc] at this
      · have hmem := ownOf_mem.mp hx
        obtain ⟨c, e⟩ := cells_has scope.names (s.heap.objs.size + 1) hmem
        exact ⟨uniq_at hu hmem, c, _, e, hcell x c e⟩
    · obtain ⟨⟨h₂, t₂, rfl⟩, _⟩ := k₂
      exact ⟨h₂, t₂, rfl, st⟩
end
end Mine

/-! V12 -/
namespace Mine
set_option linter.unusedVariables false
section
variable {prog : Program} {w : World} {τ : TopI} {A : Around} {own : List Str} {env : Env} {ρ : List (Str × PV)}

theorem FI.fkS {X : Addr → Prop} {h₀ : Heap} {s s' : Shared} (F : FI X τ h₀ own env ρ s.heap) (k : FK own env s s') : StayS X s.heap s'.heap := fun b o e _ hseq => by
  obtain ⟨xs, n, hd⟩ := hseq
  refine k.2 b o e (fun hb => ?_) fun x hx hc => ?_
  · subst hb
    obtain ⟨m, hn, _⟩ := F.L
    exact ns_noseq hn e xs n hd
  · obtain ⟨_, c, v₀, e', o', ho', hd'⟩ := F.cs x hx
    rw [hc] at e'; cases e'
    rw [e] at ho'; cases ho'; rw [hd] at hd'; cases hd'

/-- targets that are names -/
inductive Nms (own : List Str) (env : Env) : List Expr → List Str → Prop
  | nil : Nms own env [] []
  | cons {x : Str} {px : Pos} {es : List Expr} {xs : List Str} : Sto own env x → Nms own env es xs → Nms own env (.Name x px :: es) (x :: xs)

theorem Nms.length {es : List Expr} {xs : List Str} (h : Nms own env es xs) : es.length = xs.length := by
  induction h with
  | nil => rfl
  | cons _ _ ih => rw [List.length_cons, List.length_cons, ih]
theorem Nms.each {es : List Expr} {xs : List Str} (h : Nms own env es xs) : (assignEach es env).length = xs.length ∧ (assignEach es env).findIdx? (·.1) = none := by
  induction h with
  | nil => exact ⟨rfl, rfl⟩
  | cons _ _ ih =>
    refine ⟨?_, ?_⟩
    · show (_ :: _ : List _).length = _
      rw [List.length_cons, List.length_cons]; exact congrArg (· + 1) ih.1
    · show List.findIdx? _ (_ :: _) = _
      rw [List.findIdx?_cons]
      simp only [Bool.false_eq_true, if_false]
      rw [ih.2]; rfl

theorem nms_store {es : List Expr} {xs : List Str} (h : Nms own env es xs) : ∀ {ρ : List (Str × PV)} {X : Addr → Prop} {h₀ : Heap} {s : Shared} {ps : List PV} {vs : List Value} {Q : Unit → Shared → Prop} {E : Value → Shared → Prop},
    FI X τ h₀ own env ρ s.heap → RepL X s.heap ps vs → ps.length = xs.length →
    (∀ s', FK own env s s' → FI X τ h₀ own env ((xs.zip ps).reverse ++ ρ) s'.heap → Q () s') → wpAny (model prog w) A (assignInOrder ((assignEach es env).map (·.2)) vs) Q E s := by
  induction h with
  | nil =>
    intro ρ X h₀ s ps vs Q E F r hl hQ
    have : ps = [] := List.eq_nil_of_length_eq_zero hl
    subst this
    unfold RepL at r; subst r
    exact wpAny_assignInOrder_none (hQ s (fk_refl s) F)
  | cons hs hn ih =>
    intro ρ X h₀ s ps vs Q E F r hl hQ
    cases ps with
    | nil => simp at hl
    | cons p ps =>
      unfold RepL at r
      obtain ⟨v, vs', rfl, hp, hr⟩ := r
      show wpAny _ A (assignInOrder (_ :: _) (v :: vs')) Q E s
      refine wpAny_assignInOrder_more (wpAny_assign_Name (store_ F hs hp fun s₁ k₁ F₁ => ?_))
      refine ih F₁ (hr.stayS (F.fkS k₁) _ _) (by simpa using hl) fun s₂ k₂ F₂ => hQ s₂ (fk_trans k₁ k₂) ?_
      rw [List.zip_cons_cons, List.reverse_cons, List.append_assoc]
      exact F₂

theorem assign_tup {es : List Expr} {xs : List Str} {k : Nat} {pos : Pos} (hn : Nms own env es xs) (hA : A.handled = none) {X : Addr → Prop} {h₀ : Heap} {s : Shared} {ps : List PV} {v : Value} {Q : Unit → Shared → Prop} {E : Value → Shared → Prop}
    (F : FI X τ h₀ own env ρ s.heap) {T : Addr} {items : Array Value} (hT : s.heap.IsTuple T items) (r : RepL X s.heap ps items.toList) (hl : ps.length = xs.length)
    (hQ : ∀ s', FK own env s s' → FI X τ h₀ own env ((xs.zip ps).reverse ++ ρ) s'.heap → Q () s') : wpAny (model prog w) A (assign (.Tuple es k pos) env (.ref T)) Q E s := by
  have hsz : items.size = ps.length := by rw [← r.length]; simp
  refine wpAny_assign_Tuple hA hT (by rw [hn.each.1, hsz, hl]) hn.each.2 fun h' hx => ?_
  have kk : Stay s.heap h' := fun b o e => hx b o (Nat.ne_of_lt (Heap.lt_size e)) e
  refine nms_store hn (s := { s with heap := h' }) (F.stay kk) (r.stay kk) hl fun s₂ k₂ F₂ => hQ s₂ (fk_trans (fk_keeps ⟨h', s.toks, rfl, kk⟩) k₂) F₂

theorem assign_list {es : List Expr} {xs : List Str} {k : Nat} {pos : Pos} (hn : Nms own env es xs) (hA : A.handled = none) {X : Addr → Prop} {h₀ : Heap} {s : Shared} {ps : List PV} {v : Value} {Q : Unit → Shared → Prop} {E : Value → Shared → Prop}
    (F : FI X τ h₀ own env ρ s.heap) (r : Rep X s.heap (.tup ps) v) (hl : ps.length = xs.length)
    (hQ : ∀ s', FK own env s s' → FI X τ h₀ own env ((xs.zip ps).reverse ++ ρ) s'.heap → Q () s') : wpAny (model prog w) A (assign (.Tuple es k pos) env v) Q E s := by
  obtain ⟨T, vs, rfl, ⟨hT, _⟩, hr⟩ := r.tup
  exact assign_tup (v := .none) hn hA F hT hr hl hQ

/-- the frame behind a step that wrote Wr alone -/
theorem FI.wr {X : Addr → Prop} {h₀ h h' : Heap} {Wr : Addr → Prop} (F : FI X τ h₀ own env ρ h) (k : ∀ b o, ¬ Wr b → h.get? b = some o → h'.get? b = some o) (hL : ¬ Wr env.locals)
    (hc : ∀ z c, env.cells.lookup z = some c → (env.kindOf z = some .cell ∨ env.kindOf z = some .free) → ¬ Wr c) (h0 : ∀ b o, h₀.get? b = some o → ¬ Wr b) (hX : ∀ a, X a → ¬ Wr a)
    (hsq : ∀ b o, Wr b → ¬ X b → h.get? b = some o → ∀ xs n, o.data ≠ .seq xs n) : FI X τ h₀ own env ρ h' := by
  have kS : StayS X h h' := fun b o e hXb hseq => by
    obtain ⟨xs, n, hd⟩ := hseq
    by_cases hw : Wr b
    · exact absurd hd (hsq b o hw hXb e xs n)
    · exact k b o hw e
  refine ⟨F.t, fun a ha => ?_, fun b o e => k b o (h0 b o e) (F.keep b o e), F.fresh, F.freshC, F.glob, F.blt, F.fn, ?_, fun z q hz hk => ?_, fun z hz => ?_, F.inj⟩
  · obtain ⟨o, e⟩ := F.xs a ha
    exact ⟨o, k a o (hX a ha) e⟩
  · obtain ⟨m, n, H⟩ := F.L
    refine ⟨m, n.at' fun o e => k _ o hL e, fun z q hz hk => ?_⟩
    obtain ⟨u, hu, hr⟩ := H z q hz hk
    exact ⟨u, hu, hr.stayS kS _ _⟩
  · obtain ⟨c, u, e, ⟨o, ho, hd⟩, hr⟩ := F.C z q hz hk
    exact ⟨c, u, e, ⟨o, k c o (hc z c e hk) ho, hd⟩, hr.stayS kS _ _⟩
  · obtain ⟨e, c, u, hc', ⟨o, ho, hd⟩⟩ := F.cs z hz
    exact ⟨e, c, u, hc', o, k c o (hc z c hc' (.inl e)) ho, hd⟩

/-- every cell is the frame's own -/
def allOwn (own : List Str) (env : Env) : Bool := env.scope.names.all fun y => y.2 != .free && (y.2 != .cell || own.contains y.1)
theorem allOwn_at (h : allOwn own env = true) {z : Str} (hk : env.kindOf z = some .cell ∨ env.kindOf z = some .free) : z ∈ own := by
  have H := List.all_eq_true.mp h
  rcases hk with hk | hk
  · have := H _ (mem_of_lookup hk)
    simpa using this
  · have := H _ (mem_of_lookup hk)
    simp at this

/-- for over an iterator, one name -/
theorem exs_for {x : Str} {px pos : Pos} {iter : Expr} {body : List Stmt} {items : List PV} (ρs : Nat → List (Str × PV)) (hit : It prog w τ A env ρ iter items) (hx : Sto own env x) (h0 : ρs 0 = ρ)
    (hbody : ∀ i p, items[i]? = some p → Ex prog w τ A own env ((x, p) :: ρs i) body (.next (ρs (i + 1)))) (hA : A.handled = none) (hown : allOwn own env = true) (hs : ∀ v, foldedSetIterable iter env v = pure v := by intro _; rfl) :
    ExS prog w τ A own env ρ (.For (.Name x px) iter body [] pos) (.next (ρs items.length)) := .mk fun X h₀ s Q E F hQ => by
  refine wpAny_For (hit.run X h₀ own s _ E F fun it s₂ hb k₂ kb kb' W => ?_) hs
  obtain ⟨I, fp, wr, P, St, rfl, Wl, hst, hwr, hP, hfp, hsq, _⟩ := W
  have F₂ := F.fk k₂
  have hLfp : env.locals ∉ fp := fun hm => by
    obtain ⟨o, e, h1, _⟩ := hfp _ hm
    obtain ⟨m, ⟨o', es, n, ho', hd', _⟩, _⟩ := F₂.L
    rw [e] at ho'; cases ho'; exact h1 _ _ hd'
  have hcfp : ∀ z ∈ own, ∀ c, env.cells.lookup z = some c → c ∉ fp := fun z hz c hc hm => by
    obtain ⟨o, e, _, h2⟩ := hfp _ hm
    obtain ⟨_, c', v₀, e', o', ho', hd'⟩ := F₂.cs z hz
    rw [hc] at e'; cases e'
    rw [e] at ho'; cases ho'; exact h2 _ hd'
  have sub := (Wl A hA).sub
  have hLw : env.locals ∉ wr := fun h => hLfp (sub _ h)
  refine codeAny_forLoop (fun k s' => ∃ i, FI X τ h₀ own env (ρs i) s'.heap ∧ St i s'.heap ∧ (∃ h tk, s' = { s₂ with heap := h, toks := tk }) ∧
    (∀ b o, hb.get? b = some o → b ≠ env.locals → (∀ z ∈ own, env.cells.lookup z ≠ some b) → s'.heap.get? b = some o) ∧ i ≤ items.length ∧ k = items.length + 1 - i) ?_ (items.length + 1)
    ⟨0, h0 ▸ F₂, hst, ⟨s₂.heap, s₂.toks, rfl⟩, fun b o e _ _ => kb' b o e, Nat.zero_le _, rfl⟩
  rintro k s' ⟨i, F', hst', ⟨h', tk, rfl⟩, G, hi, rfl⟩
  have hLhb : ∃ o es n, hb.get? env.locals = some o ∧ o.data = .dict es n := by
    obtain ⟨m, ⟨o, es, n, ho, hd, _⟩, _⟩ := F.L
    exact ⟨o, es, n, kb _ _ ho, hd⟩
  have hchb : ∀ z ∈ own, ∀ c, env.cells.lookup z = some c → ∃ o v, hb.get? c = some o ∧ o.data = .cell v := fun z hz c hc => by
    obtain ⟨_, c', v₀, e', o, ho, hd⟩ := F.cs z hz
    rw [hc] at e'; cases e'
    exact ⟨o, _, kb _ _ ho, hd⟩
  have old : ∀ b, (∃ o, s.heap.get? b = some o) → b ∉ wr := fun b ⟨o, e⟩ hw => by have := kb _ _ e; rw [hwr b hw] at this; cases this
  have step : ∀ {j : Nat} {h h₁ : Heap}, FI X τ h₀ own env (ρs j) h → St j h → (∀ b o, b ∉ wr → h.get? b = some o → h₁.get? b = some o) → FI X τ h₀ own env (ρs j) h₁ := fun F' st' hk₁ =>
    F'.wr (Wr := (· ∈ wr)) hk₁ hLw (fun z c hc hk => by
      obtain ⟨_, c', v₀, e', o, ho, _⟩ := F.cs z (allOwn_at hown hk)
      rw [hc] at e'; cases e'
      exact old c ⟨o, ho⟩) (fun b o e => old b ⟨o, F.keep _ _ e⟩) (fun a ha => old a (F.xs a ha)) fun b o hw _ e => hsq _ _ st' b hw o e
  by_cases hlt : i < items.length
  · refine (Wl A hA).item i _ _ _ hlt hst' fun v h₁ tk₁ hPv hst₁ hk₁ => ?_
    obtain ⟨p, hp, hr⟩ := hP i v hPv hlt
    have G₁ : ∀ b o, hb.get? b = some o → b ≠ env.locals → (∀ z ∈ own, env.cells.lookup z ≠ some b) → h₁.get? b = some o := fun b o e h1 h2 => hk₁ b o (fun hw => by rw [hwr b hw] at e; cases e) (G b o e h1 h2)
    have hr₁ : Rep X h₁ p v := hr.stayS (fun b o e _ hseq => by
      obtain ⟨xs, n, hd⟩ := hseq
      refine G₁ b o e (fun hb' => ?_) fun z hz hc => ?_
      · subst hb'
        obtain ⟨o', es, n', ho', hd'⟩ := hLhb
        rw [e] at ho'; cases ho'; rw [hd] at hd'; cases hd'
      · obtain ⟨o', u, ho', hd'⟩ := hchb z hz b hc
        rw [e] at ho'; cases ho'; rw [hd] at hd'; cases hd') _ _
    -- the frame behind the iterator's step
    have F₁ : FI X τ h₀ own env (ρs i) h₁ := step F' hst' hk₁
    refine wpAny_assign_Name (store_ (s := { s₂ with heap := h₁, toks := tk₁ }) F₁ hx hr₁ fun s₃ k₃ F₃ => ?_)
    refine (hbody i p hp).run X h₀ s₃ _ _ F₃ fun s₄ k₄ F₄ => ?_
    have k34 := fk_trans k₃ k₄
    refine ⟨items.length + 1 - (i + 1), by omega, i + 1, F₄, ?_, ?_, fun b o e h1 h2 => k34.2 b o (G₁ b o e h1 h2) h1 h2, by omega, rfl⟩
    · exact (Wl A hA).frame _ _ _ hst₁ fun b hb' o e => k34.2 b o e (fun h => hLfp (h ▸ hb')) fun z hz hc => hcfp z hz b hc hb'
    · obtain ⟨⟨h4, t4, e4⟩, _⟩ := k34
      exact ⟨h4, t4, e4⟩
  · have hin : i = items.length := by omega
    subst hin
    refine (Wl A hA).done _ _ _ hst' fun h₁ tk₁ hk₁ => wpAny_execs_nil ?_
    refine hQ _ ?_ (step F' hst' hk₁)
    obtain ⟨h2, t2, rfl, _⟩ := k₂
    exact ⟨⟨h₁, tk₁, rfl⟩, fun b o e h1 h2 => hk₁ b o (old b ⟨o, e⟩) (G b o (kb _ _ e) h1 h2)⟩
end
end Mine

/-! V13 -/
namespace Mine
set_option linter.unusedVariables false
section
variable {prog : Program} {w : World} {τ : TopI} {A : Around} {own : List Str} {env : Env} {ρ : List (Str × PV)}

theorem FI.wr2 {X Y : Addr → Prop} {h₀ h h' : Heap} {Wr : Addr → Prop} (F : FI Y τ h₀ own env ρ h) (k : ∀ b o, ¬ Wr b → h.get? b = some o → h'.get? b = some o) (hL : ¬ Wr env.locals)
    (hc : ∀ z c, env.cells.lookup z = some c → (env.kindOf z = some .cell ∨ env.kindOf z = some .free) → ¬ Wr c) (h0 : ∀ b o, h₀.get? b = some o → ¬ Wr b) (hsub : ∀ a, X a → Y a) (xs' : ∀ a, X a → ∃ o, h'.get? a = some o)
    (hsq : ∀ b o, Wr b → ¬ Y b → h.get? b = some o → ∀ xs n, o.data ≠ .seq xs n) : FI X τ h₀ own env ρ h' := by
  have kS : StayS Y h h' := fun b o e hXb hseq => by
    obtain ⟨xs, n, hd⟩ := hseq
    by_cases hw : Wr b
    · exact absurd hd (hsq b o hw hXb e xs n)
    · exact k b o hw e
  refine ⟨F.t, xs', fun b o e => k b o (h0 b o e) (F.keep b o e), F.fresh, F.freshC, F.glob, F.blt, F.fn, ?_, fun z q hz hk => ?_, fun z hz => ?_, F.inj⟩
  · obtain ⟨m, n, H⟩ := F.L
    refine ⟨m, n.at' fun o e => k _ o hL e, fun z q hz hk => ?_⟩
    obtain ⟨u, hu, hr⟩ := H z q hz hk
    exact ⟨u, hu, (hr.stayS kS _ _).less hsub _ _⟩
  · obtain ⟨c, u, e, ⟨o, ho, hd⟩, hr⟩ := F.C z q hz hk
    exact ⟨c, u, e, ⟨o, k c o (hc z c e hk) ho, hd⟩, (hr.stayS kS _ _).less hsub _ _⟩
  · obtain ⟨e, c, u, hc', ⟨o, ho, hd⟩⟩ := F.cs z hz
    exact ⟨e, c, u, hc', o, k c o (hc z c hc' (.inl e)) ho, hd⟩

/-- more is forbidden: what did not stand -/
theorem FI.forbid {X Y : Addr → Prop} {h₀ h h' : Heap} (F : FI X τ h₀ own env ρ h) (k : Stay h h') (hm : ∀ a o, h.get? a = some o → Y a → X a) (xs' : ∀ a, Y a → ∃ o, h'.get? a = some o) : FI Y τ h₀ own env ρ h' where
  t := F.t
  xs := xs'
  keep := F.keep.trans k
  fresh := F.fresh
  freshC := F.freshC
  glob := F.glob
  blt := F.blt
  fn := F.fn
  L := let ⟨m, n, H⟩ := F.L; ⟨m, n.keeps k, fun x p e q => let ⟨v, a, b⟩ := H x p e q; ⟨v, a, (b.more hm _ _).stay k⟩⟩
  C := fun x p e q => let ⟨c, v, a, b, d⟩ := F.C x p e q; ⟨c, v, a, b.keeps k, (d.more hm _ _).stay k⟩
  cs := fun x q => let ⟨e, c, v, a, b⟩ := F.cs x q; ⟨e, c, v, a, b.keeps k⟩
  inj := F.inj
theorem FI.allow {X Y : Addr → Prop} {h₀ h : Heap} (F : FI Y τ h₀ own env ρ h) (hs : ∀ a, X a → Y a) : FI X τ h₀ own env ρ h where
  t := F.t
  xs := fun a ha => F.xs a (hs a ha)
  keep := F.keep
  fresh := F.fresh
  freshC := F.freshC
  glob := F.glob
  blt := F.blt
  fn := F.fn
  L := let ⟨m, n, H⟩ := F.L; ⟨m, n, fun x p e q => let ⟨v, a, b⟩ := H x p e q; ⟨v, a, b.less hs _ _⟩⟩
  C := fun x p e q => let ⟨c, v, a, b, d⟩ := F.C x p e q; ⟨c, v, a, b, d.less hs _ _⟩
  cs := F.cs
  inj := F.inj

/-- an iterator about to give tuples -/
def WkU (X : Addr → Prop) (prog : Program) (w : World) (hb : Heap) (s : Shared) (it : Value) (items : List (List PV)) : Prop :=
  ∃ I fp wr Pt St Mid, it = .ref I ∧ (∀ A' : Around, A'.handled = none → WalksU prog w A' I fp wr items.length Pt St Mid) ∧ St 0 s.heap ∧ (∀ b ∈ wr, hb.get? b = none) ∧
    (∀ i vals, Pt i vals → i < items.length → ∃ ps, items[i]? = some ps ∧ RepL X hb ps vals.toList) ∧ (∀ b ∈ fp, ∃ o, s.heap.get? b = some o ∧ (∀ es n, o.data ≠ .dict es n) ∧ ∀ c, o.data ≠ .cell c) ∧
    (∀ i h, St i h → ∀ b ∈ wr, ∃ o, h.get? b = some o) ∧ (∀ i T h, Mid i T h → ∀ b ∈ wr, ∃ o, h.get? b = some o) ∧ ∀ b ∈ fp, ¬ X b

structure ItU (prog : Program) (w : World) (τ : TopI) (A : Around) (env : Env) (ρ : List (Str × PV)) (e : Expr) (items : List (List PV)) : Prop where
  run : ∀ (X : Addr → Prop) (h₀ : Heap) (own : List Str) (s : Shared) (Q : Value → Shared → Prop) (E : Value → Shared → Prop), FI X τ h₀ own env ρ s.heap →
    (∀ it s' hb, Keeps s s' → Stay s.heap hb → Stay hb s'.heap → WkU X prog w hb s' it items → Q it s') → wpAny (model prog w) A (eval e env) (fun x s₁ => wpAny (model prog w) A (pyIter x) Q E s₁) E s

/-- for over an iterator of tuples, several names -/
theorem exs_forU {es : List Expr} {xs : List Str} {tk : Nat} {tp pos : Pos} {iter : Expr} {body : List Stmt} {items : List (List PV)} (ρs : Nat → List (Str × PV)) (hit : ItU prog w τ A env ρ iter items) (hx : Nms own env es xs) (h0 : ρs 0 = ρ)
    (hlen : ∀ ps ∈ items, ps.length = xs.length)
    (hbody : ∀ i ps, items[i]? = some ps → Ex prog w τ A own env ((xs.zip ps).reverse ++ ρs i) body (.next (ρs (i + 1)))) (hA : A.handled = none) (hown : allOwn own env = true) (hs : ∀ v, foldedSetIterable iter env v = pure v := by intro _; rfl) :
    ExS prog w τ A own env ρ (.For (.Tuple es tk tp) iter body [] pos) (.next (ρs items.length)) := .mk fun X h₀ s Q E F hQ => by
  refine wpAny_For (hit.run X h₀ own s _ E F fun it s₂ hb k₂ kb kb' W => ?_) hs
  obtain ⟨I, fp, wr, Pt, St, Mid, rfl, Wl, hst, hwr, hP, hfp, hex, hexm, hXfp⟩ := W
  have F₂ := F.fk k₂
  have hLfp : env.locals ∉ fp := fun hm => by
    obtain ⟨o, e, h1, _⟩ := hfp _ hm
    obtain ⟨m, ⟨o', es, n, ho', hd', _⟩, _⟩ := F₂.L
    rw [e] at ho'; cases ho'; exact h1 _ _ hd'
  have hcfp : ∀ z ∈ own, ∀ c, env.cells.lookup z = some c → c ∉ fp := fun z hz c hc hm => by
    obtain ⟨o, e, _, h2⟩ := hfp _ hm
    obtain ⟨_, c', v₀, e', o', ho', hd'⟩ := F₂.cs z hz
    rw [hc] at e'; cases e'
    rw [e] at ho'; cases ho'; exact h2 _ hd'
  have sub := (Wl A hA).sub
  have hLw : env.locals ∉ wr := fun h => hLfp (sub _ h)
  have old : ∀ b, (∃ o, s.heap.get? b = some o) → b ∉ wr := fun b ⟨o, e⟩ hw => by have := kb _ _ e; rw [hwr b hw] at this; cases this
  have hcw : ∀ z c, env.cells.lookup z = some c → (env.kindOf z = some .cell ∨ env.kindOf z = some .free) → c ∉ wr := fun z c hc hk => by
    obtain ⟨_, c', v₀, e', o, ho, _⟩ := F.cs z (allOwn_at hown hk)
    rw [hc] at e'; cases e'
    exact old c ⟨o, ho⟩
  have h0w : ∀ b o, h₀.get? b = some o → b ∉ wr := fun b o e => old b ⟨o, F.keep _ _ e⟩
  have k2h : Stay s.heap s₂.heap := Keepsl k₂
  have FX : FI (fun a => X a ∨ a ∈ wr) τ h₀ own env ρ s₂.heap := F.forbid k2h (fun a o e y => y.elim id fun hw => absurd hw (old a ⟨o, e⟩)) fun a ha => by
    rcases ha with ha | ha
    · obtain ⟨o, e⟩ := F.xs a ha; exact ⟨o, k2h _ _ e⟩
    · exact hex 0 _ hst a ha
  have step : ∀ {j : Nat} {h h₁ : Heap}, FI (fun a => X a ∨ a ∈ wr) τ h₀ own env (ρs j) h → (∀ b o, b ∉ wr → h.get? b = some o → h₁.get? b = some o) → (∀ b ∈ wr, ∃ o, h₁.get? b = some o) → FI (fun a => X a ∨ a ∈ wr) τ h₀ own env (ρs j) h₁ := fun F' hk₁ hx₁ =>
    F'.wr2 (Wr := (· ∈ wr)) hk₁ hLw hcw h0w (fun a h => h) (fun a ha => by
      rcases ha with ha | ha
      · obtain ⟨o, e⟩ := F'.xs a (.inl ha)
        exact ⟨o, hk₁ a o (old a (F.xs a ha)) e⟩
      · exact hx₁ a ha) fun b o hw hn => absurd (.inr hw) hn
  refine codeAny_forLoop_any (fun k s' => ∃ i, FI (fun a => X a ∨ a ∈ wr) τ h₀ own env (ρs i) s'.heap ∧ St i s'.heap ∧ (∃ h tk, s' = { s₂ with heap := h, toks := tk }) ∧
    (∀ b o, hb.get? b = some o → b ≠ env.locals → (∀ z ∈ own, env.cells.lookup z ≠ some b) → s'.heap.get? b = some o) ∧ i ≤ items.length ∧ k = items.length + 1 - i) ?_ (items.length + 1)
    ⟨0, h0 ▸ FX, hst, ⟨s₂.heap, s₂.toks, rfl⟩, fun b o e _ _ => kb' b o e, Nat.zero_le _, rfl⟩
  rintro k s' ⟨i, F', hst', ⟨h', tk, rfl⟩, G, hi, rfl⟩
  have hLhb : ∃ o es n, hb.get? env.locals = some o ∧ o.data = .dict es n := by
    obtain ⟨m, ⟨o, es, n, ho, hd, _⟩, _⟩ := F.L
    exact ⟨o, es, n, kb _ _ ho, hd⟩
  have hchb : ∀ z ∈ own, ∀ c, env.cells.lookup z = some c → ∃ o v, hb.get? c = some o ∧ o.data = .cell v := fun z hz c hc => by
    obtain ⟨_, c', v₀, e', o, ho, hd⟩ := F.cs z hz
    rw [hc] at e'; cases e'
    exact ⟨o, _, kb _ _ ho, hd⟩
  by_cases hlt : i < items.length
  · refine (Wl A hA).item i _ _ _ hlt hst' fun T vals h₁ tk₁ hPv hT hmid hk₁ => ?_
    obtain ⟨ps, hp, hr⟩ := hP i vals hPv hlt
    dsimp only at hk₁ ⊢
    refine (Wl A hA).go es _ tp i T _ _ _ hmid fun h₂ hst₂ hk₂ => ?_
    dsimp only at hk₂
    have hk₁₂ : ∀ b o, b ∉ wr → h'.get? b = some o → h₂.get? b = some o := fun b o hw e => hk₂ b o hw (hk₁ b o hw e)
    have G₂ : ∀ b o, hb.get? b = some o → b ≠ env.locals → (∀ z ∈ own, env.cells.lookup z ≠ some b) → h₂.get? b = some o := fun b o e h1 h2 => hk₁₂ b o (fun hw => by rw [hwr b hw] at e; cases e) (G b o e h1 h2)
    have hstS : StayS X hb h₂ := fun b o e _ hseq => by
      obtain ⟨xs, n, hd⟩ := hseq
      refine G₂ b o e (fun hb' => ?_) fun z hz hc => ?_
      · subst hb'
        obtain ⟨o', es, n', ho', hd'⟩ := hLhb
        rw [e] at ho'; cases ho'; rw [hd] at hd'; cases hd'
      · obtain ⟨o', u, ho', hd'⟩ := hchb z hz b hc
        rw [e] at ho'; cases ho'; rw [hd] at hd'; cases hd'
    have hrX : RepL (fun a => X a ∨ a ∈ wr) h₂ ps vals.toList := by
      have h1 : RepL (fun a => X a ∨ a ∈ wr) hb ps vals.toList := hr.more (fun a o e y => y.elim id fun hw => by rw [hwr a hw] at e; cases e) _ _
      exact h1.stayS (fun b o e hn hseq => hstS b o e (fun hx => hn (.inl hx)) hseq) _ _
    have F₁ := step F' hk₁₂ (hex _ _ hst₂)
    have hT₂ : h₂.IsTuple T vals := hT.at fun o e => hk₂ T o ((Wl A hA).apart i T _ hmid) e
    refine assign_tup (v := .none) (s := { s₂ with heap := h₂, toks := tk₁ }) (ps := ps) hx hA F₁ hT₂ hrX (hlen ps (List.mem_of_getElem? hp)) fun s₃ k₃ F₃ => ?_
    refine (hbody i ps hp).run _ h₀ s₃ _ _ F₃ fun s₄ k₄ F₄ => ?_
    have k34 := fk_trans k₃ k₄
    refine ⟨items.length + 1 - (i + 1), by omega, i + 1, F₄, ?_, ?_, fun b o e h1 h2 => k34.2 b o (G₂ b o e h1 h2) h1 h2, by omega, rfl⟩
    · exact (Wl A hA).frame _ _ _ hst₂ fun b hb' o e => k34.2 b o e (fun h => hLfp (h ▸ hb')) fun z hz hc => hcfp z hz b hc hb'
    · obtain ⟨⟨h4, t4, e4⟩, _⟩ := k34
      exact ⟨h4, t4, e4⟩
  · have hin : i = items.length := by omega
    subst hin
    refine (Wl A hA).done _ _ _ hst' fun h₁ tk₁ hk₁ => wpAny_execs_nil ?_
    refine hQ _ ?_ ?_
    · obtain ⟨h2, t2, rfl, _⟩ := k₂
      exact ⟨⟨h₁, tk₁, rfl⟩, fun b o e h1 h2 => hk₁ b o (old b ⟨o, e⟩) (G b o (kb _ _ e) h1 h2)⟩
    · exact F'.wr2 (Wr := (· ∈ wr)) hk₁ hLw hcw h0w (fun a h => .inl h) (fun a ha => by
        obtain ⟨o, e⟩ := F'.xs a (.inl ha)
        exact ⟨o, hk₁ a o (old a (F.xs a ha)) e⟩) fun b o hw hn => absurd (.inr hw) hn

/-- a list of tuples -/
theorem itU_list {e : Expr} {tups : List (List PV)} (he : Ev prog w τ A env ρ e (.list (tups.map .tup))) : ItU prog w τ A env ρ e tups := .mk fun X h₀ own s Q E F hQ =>
  he.run X h₀ own s _ E F fun v s₁ k₁ r₁ => by
    obtain ⟨a, vs, rfl, ⟨hl, hXa⟩, hr⟩ := r₁.list
    have hn : vs.length = tups.length := by rw [hr.length, List.length_map]
    have tup : ∀ i, i < tups.length → ∃ T us, vs[i]? = some (.ref T) ∧ s₁.heap.IsTuple T us ∧ ∃ ps, tups[i]? = some ps ∧ RepL X s₁.heap ps us.toList := fun i hi => by
      obtain ⟨v, hv, hp⟩ := hr.get (i := i) (p := .tup tups[i]) (by rw [List.getElem?_map, List.getElem?_eq_getElem hi]; rfl)
      obtain ⟨T, us, rfl, ⟨hT, _⟩, hrr⟩ := hp.tup
      exact ⟨T, us.toArray, hv, hT, tups[i], List.getElem?_eq_getElem hi, by simpa using hrr⟩
    refine wpAny_pyIter_list hl.isList ?_
    have hne : a ≠ s₁.heap.objs.size := by obtain ⟨n, e⟩ := hl; exact Nat.ne_of_lt (Heap.lt_size e)
    refine hQ _ _ s₁.heap (ktrans k₁ (kpush _ _)) (Keepsl k₁) (stay_push _ _) ?_
    obtain ⟨Ts, hT₁⟩ : ∃ Ts : Nat → Addr, ∀ i, i < tups.length → ∃ us, vs[i]? = some (.ref (Ts i)) ∧ s₁.heap.IsTuple (Ts i) us ∧ ∃ ps, tups[i]? = some ps ∧ RepL X s₁.heap ps us.toList :=
      ⟨fun i => if h : i < tups.length then (tup i h).choose else 0, fun i h => by simp only [dif_pos h]; exact (tup i h).choose_spec⟩
    obtain ⟨us, hTs⟩ : ∃ us : Nat → Array Value, ∀ i, i < tups.length → vs[i]? = some (.ref (Ts i)) ∧ s₁.heap.IsTuple (Ts i) (us i) ∧ ∃ ps, tups[i]? = some ps ∧ RepL X s₁.heap ps (us i).toList :=
      ⟨fun i => if h : i < tups.length then (hT₁ i h).choose else #[], fun i h => by simp only [dif_pos h]; exact (hT₁ i h).choose_spec⟩
    have hsz : vs.toArray.size = tups.length := by rw [List.size_toArray, hn]
    have hTI : ∀ j, j < vs.toArray.size → Ts j ≠ s₁.heap.objs.size := fun j hj => by
      obtain ⟨o, ho, _⟩ := (hTs j (hsz ▸ hj)).2.1
      exact Nat.ne_of_lt (Heap.lt_size ho)
    have hW := fun (A' : Around) (hA' : A'.handled = none) => WalksU.listOfTuples (prog := prog) (w := w) hA' s₁.heap.objs.size a hne vs.toArray Ts us (fun j hj => by simpa using (hTs j (hsz ▸ hj)).1) hTI
    rw [hsz] at hW
    refine ⟨s₁.heap.objs.size, _, _, _, _, _, rfl, hW, ⟨⟨_, Heap.get?_push_size _ rfl, rfl, rfl⟩, hl.isList.at fun o e => Heap.get?_push_of_some _ e, fun k hk => (hTs k hk).2.1.at fun o e => Heap.get?_push_of_some _ e⟩, fun b hb => ?_, fun i vals hv hi => ?_, fun b hb => ?_, fun i h st b hb => ?_, fun i T h hm b hb => ?_, fun b hb hXb => ?_⟩
    · simp at hb; subst hb; exact get_none (Nat.le_refl _)
    · subst hv
      exact (hTs i hi).2.2
    · rcases List.mem_cons.mp hb with rfl | hb
      · exact ⟨_, Heap.get?_push_size _ rfl, fun _ _ e => (by cases e), fun _ e => (by cases e)⟩
      · rcases List.mem_cons.mp hb with rfl | hb
        · obtain ⟨n, e⟩ := hl
          exact ⟨_, Heap.get?_push_of_some _ e, fun _ _ e => (by cases e), fun _ e => (by cases e)⟩
        · obtain ⟨k, hk, rfl⟩ := List.mem_map.mp hb
          obtain ⟨o, ho, _, n, hd⟩ := (hTs k (List.mem_range.mp hk)).2.1
          exact ⟨o, Heap.get?_push_of_some _ ho, fun _ _ e => (by rw [hd] at e; cases e), fun _ e => (by rw [hd] at e; cases e)⟩
    · simp at hb; subst hb
      obtain ⟨⟨o, ho, _⟩, _⟩ := st
      exact ⟨o, ho⟩
    · simp at hb; subst hb
      obtain ⟨_, ⟨o, ho, _⟩, _⟩ := hm
      exact ⟨o, ho⟩
    · rcases List.mem_cons.mp hb with rfl | hb
      · obtain ⟨o, e⟩ := (F.fk k₁).xs _ hXb
        exact absurd (Heap.lt_size e) (Nat.lt_irrefl _)
      · rcases List.mem_cons.mp hb with rfl | hb
        · exact hXa hXb
        · obtain ⟨k, hk, rfl⟩ := List.mem_map.mp hb
          obtain ⟨ps, hp, _⟩ := (hTs k (List.mem_range.mp hk)).2.2
          obtain ⟨v, hv, hr'⟩ := hr.get (i := k) (p := .tup ps) (by rw [List.getElem?_map, hp]; rfl)
          rw [(hTs k (List.mem_range.mp hk)).1] at hv
          cases hv
          obtain ⟨T, us, e, ⟨_, hXT⟩, _⟩ := hr'.tup
          cases e
          exact hXT hXb

theorem repL_arr {X : Addr → Prop} {h : Heap} {ps : List PV} {vs : List Value} (hr : RepL X h ps vs) {i : Nat} {x : Value} (hx : vs.toArray[i]? = some x) : ∃ p, ps[i]? = some p ∧ Rep X h p x := by
  have hx' : vs[i]? = some x := by simpa using hx
  have hi : i < ps.length := by rw [← hr.length]; exact (List.getElem?_eq_some_iff.mp hx').1
  obtain ⟨v, hv, hp⟩ := hr.get (i := i) (p := ps[i]) (List.getElem?_eq_getElem hi)
  rw [hx'] at hv; cases hv
  exact ⟨_, List.getElem?_eq_getElem hi, hp⟩

theorem itU_zip {np pos : Pos} {e e' : Expr} {la lb : List PV} (hl : EvL prog w τ A env ρ [e, e'] [.list la, .list lb])
    (hk : env.kindOf "zip" = some .globalImplicit) (hm : τ.mg "zip" = none) (hb : bootBuiltins "zip" = some (.type "zip"))
    (he : starEach [e, e'] env = (false, eval e env) :: starEach [e'] env := by rfl) (hplain : (backTo pos (starEach [e'] env)).any (·.1) = false := by rfl) :
    ItU prog w τ A env ρ (.Call (.Name "zip" np) [e, e'] [] pos) ((la.zip lb).map fun p => [p.1, p.2]) := .mk fun X h₀ own s Q E F hQ => by
  refine wpAny_Call_NameR (name_builtin F hk hm hb (by decide) (callWith_typeE (hl.run X pos h₀ own s _ E F fun vs s₁ k₁ r₁ => ?_) he hplain))
  unfold RepL at r₁
  obtain ⟨v, vs', rfl, hp, r₁⟩ := r₁
  unfold RepL at r₁
  obtain ⟨v', vs'', rfl, hp', r₁⟩ := r₁
  unfold RepL at r₁; subst r₁
  obtain ⟨l1, as, rfl, ⟨hl1, hX1⟩, ra⟩ := hp.list
  obtain ⟨l2, bs, rfl, ⟨hl2, hX2⟩, rb⟩ := hp'.list
  refine call_zip_2 hl1.isList hl2.isList fun h' hz hTI hTO h1 h2 hsz hk => ?_
  have st : Stay s₁.heap h' := hk
  refine wpAny_pyIter_zip hz (hQ _ _ s₁.heap (ktrans k₁ (kmk _ st)) (Keepsl k₁) st ?_)
  have lt1 : @LT.lt Nat _ l1 s₁.heap.objs.size := by obtain ⟨n, e⟩ := hl1; exact Heap.lt_size e
  have lt2 : @LT.lt Nat _ l2 s₁.heap.objs.size := by obtain ⟨n, e⟩ := hl2; exact Heap.lt_size e
  have D : ZipApart (s₁.heap.objs.size + 4) (s₁.heap.objs.size + 2) (s₁.heap.objs.size + 3) s₁.heap.objs.size (s₁.heap.objs.size + 1) l1 l2 := by
    constructor <;> (intro (e : (_ : Nat) = _); omega)
  have hW := fun (A' : Around) (hA' : A'.handled = none) => (WalksT.zip2 (prog := prog) (w := w) hA' _ _ _ _ _ l1 l2 D as.toArray bs.toArray).toU
  have hn : min as.toArray.size bs.toArray.size = ((la.zip lb).map fun p => [p.1, p.2]).length := by simp [ra.length, rb.length]
  rw [hn] at hW
  refine ⟨_, _, _, _, _, _, rfl, hW, ⟨hz, hTI, ⟨_, _, hTO⟩, h1, h2, hl1.isList.at fun o e => hk _ _ e, hl2.isList.at fun o e => hk _ _ e⟩, fun b hb => ?_, fun i vals hv hi => ?_, fun b hb => ?_, fun i h st b hb => ?_, fun i T h hm b hb => ?_, fun b hb hXb => ?_⟩
  · simp only [List.mem_cons, List.not_mem_nil, or_false] at hb
    rcases hb with rfl | rfl | rfl | rfl <;> exact get_none (by first | exact Nat.le_add_right _ _ | exact Nat.le_refl _)
  · obtain ⟨x, y, hx, hy, rfl⟩ := hv
    obtain ⟨p, e1, r1⟩ := repL_arr ra hx
    obtain ⟨q, e2, r2⟩ := repL_arr rb hy
    refine ⟨[p, q], ?_, ?_⟩
    · rw [List.getElem?_map, (List.getElem?_zip_eq_some (l₁ := la) (l₂ := lb) (z := (p, q)) (i := i)).mpr ⟨e1, e2⟩]; rfl
    · show RepL X s₁.heap [p, q] [x, y]
      unfold RepL; refine ⟨_, _, rfl, r1, ?_⟩
      unfold RepL; refine ⟨_, _, rfl, r2, ?_⟩
      unfold RepL; rfl
  · simp only [List.mem_cons, List.not_mem_nil, or_false] at hb
    rcases hb with rfl | rfl | rfl | rfl | rfl | rfl | rfl
    · exact ⟨_, hz, fun _ _ e => (by cases e), fun _ e => (by cases e)⟩
    · exact ⟨_, hTI, fun _ _ e => (by cases e), fun _ e => (by cases e)⟩
    · exact ⟨_, hTO, fun _ _ e => (by cases e), fun _ e => (by cases e)⟩
    · obtain ⟨o, e, _, hd⟩ := h1
      exact ⟨_, e, fun _ _ e => (by rw [hd] at e; cases e), fun _ e => (by rw [hd] at e; cases e)⟩
    · obtain ⟨o, e, _, hd⟩ := h2
      exact ⟨_, e, fun _ _ e => (by rw [hd] at e; cases e), fun _ e => (by rw [hd] at e; cases e)⟩
    · obtain ⟨n, e⟩ := hl1
      exact ⟨_, hk _ _ e, fun _ _ e => (by cases e), fun _ e => (by cases e)⟩
    · obtain ⟨n, e⟩ := hl2
      exact ⟨_, hk _ _ e, fun _ _ e => (by cases e), fun _ e => (by cases e)⟩
  · obtain ⟨a1, a2, ⟨a, b', a3⟩, a4, a5, _⟩ := st
    simp only [List.mem_cons, List.not_mem_nil, or_false] at hb
    rcases hb with rfl | rfl | rfl | rfl
    · exact ⟨_, a1⟩
    · exact ⟨_, a3⟩
    · obtain ⟨o, e, _⟩ := a4; exact ⟨o, e⟩
    · obtain ⟨o, e, _⟩ := a5; exact ⟨o, e⟩
  · obtain ⟨a1, a2, ⟨a, b', a3⟩, a4, a5, _⟩ := hm
    simp only [List.mem_cons, List.not_mem_nil, or_false] at hb
    rcases hb with rfl | rfl | rfl | rfl
    · exact ⟨_, a1⟩
    · exact ⟨_, a3⟩
    · obtain ⟨o, e, _⟩ := a4; exact ⟨o, e⟩
    · obtain ⟨o, e, _⟩ := a5; exact ⟨o, e⟩
  · obtain ⟨o, e⟩ := (F.fk k₁).xs _ hXb
    have hlt := Heap.lt_size e
    simp only [List.mem_cons, List.not_mem_nil, or_false] at hb
    rcases hb with rfl | rfl | rfl | rfl | rfl | rfl | rfl
    · exact absurd hlt (Nat.not_lt.mpr (Nat.le_add_right _ _))
    · exact absurd hlt (Nat.not_lt.mpr (Nat.le_add_right _ _))
    · exact absurd hlt (Nat.not_lt.mpr (Nat.le_add_right _ _))
    · exact absurd hlt (Nat.lt_irrefl _)
    · exact absurd hlt (Nat.not_lt.mpr (Nat.le_add_right _ _))
    · exact hX1 hXb
    · exact hX2 hXb

theorem itU_enum {np pos : Pos} {e : Expr} {la : List PV} (hl : EvL prog w τ A env ρ [e] [.list la])
    (hk : env.kindOf "enumerate" = some .globalImplicit) (hm : τ.mg "enumerate" = none) (hb : bootBuiltins "enumerate" = some (.type "enumerate"))
    (he : starEach [e] env = (false, eval e env) :: starEach [] env := by rfl) (hplain : (backTo pos (starEach [] env)).any (·.1) = false := by rfl) :
    ItU prog w τ A env ρ (.Call (.Name "enumerate" np) [e] [] pos) (la.zipIdx.map fun p => [.int p.2, p.1]) := .mk fun X h₀ own s Q E F hQ => by
  refine wpAny_Call_NameR (name_builtin F hk hm hb (by decide) (callWith_typeE (hl.run X pos h₀ own s _ E F fun vs s₁ k₁ r₁ => ?_) he hplain))
  unfold RepL at r₁
  obtain ⟨v, vs', rfl, hp, r₁⟩ := r₁
  unfold RepL at r₁; subst r₁
  obtain ⟨l1, as, rfl, ⟨hl1, hX1⟩, ra⟩ := hp.list
  refine call_enumerate_list hl1.isList fun h' hz h1 hsz hk => ?_
  have st : Stay s₁.heap h' := hk
  refine wpAny_pyIter_enum hz (hQ _ _ s₁.heap (ktrans k₁ (kmk _ st)) (Keepsl k₁) st ?_)
  have lt1 : @LT.lt Nat _ l1 s₁.heap.objs.size := by obtain ⟨n, e⟩ := hl1; exact Heap.lt_size e
  have hW := fun (A' : Around) (hA' : A'.handled = none) => (WalksT.enumerate (prog := prog) (w := w) hA' (s₁.heap.objs.size + 1) s₁.heap.objs.size l1 (fun (e : (_ : Nat) = _) => by omega) (fun (e : (_ : Nat) = _) => by omega) (fun (e : (_ : Nat) = _) => by omega) as.toArray).toU
  have hn : as.toArray.size = (la.zipIdx.map fun p => [PV.int p.2, p.1]).length := by simp [ra.length]
  rw [hn] at hW
  refine ⟨_, _, _, _, _, _, rfl, hW, ⟨⟨_, hz⟩, h1, hl1.isList.at fun o e => hk _ _ e⟩, fun b hb => ?_, fun i vals hv hi => ?_, fun b hb => ?_, fun i h st b hb => ?_, fun i T h hm b hb => ?_, fun b hb hXb => ?_⟩
  · simp only [List.mem_cons, List.not_mem_nil, or_false] at hb
    rcases hb with rfl | rfl <;> exact get_none (by first | exact Nat.le_add_right _ _ | exact Nat.le_refl _)
  · obtain ⟨t, x, hx, rfl⟩ := hv
    obtain ⟨p, e1, r1⟩ := repL_arr ra hx
    refine ⟨[.int i, p], ?_, ?_⟩
    · rw [List.getElem?_map, List.getElem?_zipIdx, e1]; simp
    · show RepL X s₁.heap [.int i, p] [.int i t, x]
      unfold RepL; refine ⟨_, _, rfl, rep_int, ?_⟩
      unfold RepL; refine ⟨_, _, rfl, r1, ?_⟩
      unfold RepL; rfl
  · simp only [List.mem_cons, List.not_mem_nil, or_false] at hb
    rcases hb with rfl | rfl | rfl
    · exact ⟨_, hz, fun _ _ e => (by cases e), fun _ e => (by cases e)⟩
    · obtain ⟨o, e, _, hd⟩ := h1
      exact ⟨_, e, fun _ _ e => (by rw [hd] at e; cases e), fun _ e => (by rw [hd] at e; cases e)⟩
    · obtain ⟨n, e⟩ := hl1
      exact ⟨_, hk _ _ e, fun _ _ e => (by cases e), fun _ e => (by cases e)⟩
  · obtain ⟨⟨_, a1⟩, a4, _⟩ := st
    simp only [List.mem_cons, List.not_mem_nil, or_false] at hb
    rcases hb with rfl | rfl
    · exact ⟨_, a1⟩
    · obtain ⟨o, e, _⟩ := a4; exact ⟨o, e⟩
  · obtain ⟨⟨_, a1⟩, a4, _⟩ := hm
    simp only [List.mem_cons, List.not_mem_nil, or_false] at hb
    rcases hb with rfl | rfl
    · exact ⟨_, a1⟩
    · obtain ⟨o, e, _⟩ := a4; exact ⟨o, e⟩
  · obtain ⟨o, e⟩ := (F.fk k₁).xs _ hXb
    have hlt := Heap.lt_size e
    simp only [List.mem_cons, List.not_mem_nil, or_false] at hb
    rcases hb with rfl | rfl | rfl
    · exact absurd hlt (Nat.not_lt.mpr (Nat.le_add_right _ _))
    · exact absurd hlt (Nat.lt_irrefl _)
    · exact hX1 hXb
end
end Mine

/-! V14 -/
namespace Mine
set_option linter.unusedVariables false
section
variable {prog : Program} {w : World} {τ : TopI} {A : Around} {own : List Str} {env : Env} {ρ : List (Str × PV)}

/-- for over an iterator, one name, the turn k returns -/
theorem exs_for_ret {k : Nat} {r : PV} {x : Str} {px pos : Pos} {iter : Expr} {body : List Stmt} {items : List PV} (ρs : Nat → List (Str × PV)) (hit : It prog w τ A env ρ iter items) (hx : Sto own env x) (h0 : ρs 0 = ρ)
    (hk : k < items.length) (hbody : ∀ i p, i < k → items[i]? = some p → Ex prog w τ A own env ((x, p) :: ρs i) body (.next (ρs (i + 1)))) (hret : ∀ p, items[k]? = some p → Ex prog w τ A own env ((x, p) :: ρs k) body (.ret r)) (hA : A.handled = none) (hown : allOwn own env = true) (hs : ∀ v, foldedSetIterable iter env v = pure v := by intro _; rfl) :
    ExS prog w τ A own env ρ (.For (.Name x px) iter body [] pos) (.ret r) := .mk fun X h₀ s Q E F hQ => by
  refine wpAny_For (hit.run X h₀ own s _ E F fun it s₂ hb k₂ kb kb' W => ?_) hs
  obtain ⟨I, fp, wr, P, St, rfl, Wl, hst, hwr, hP, hfp, hsq, _⟩ := W
  have F₂ := F.fk k₂
  have hLfp : env.locals ∉ fp := fun hm => by
    obtain ⟨o, e, h1, _⟩ := hfp _ hm
    obtain ⟨m, ⟨o', es, n, ho', hd', _⟩, _⟩ := F₂.L
    rw [e] at ho'; cases ho'; exact h1 _ _ hd'
  have hcfp : ∀ z ∈ own, ∀ c, env.cells.lookup z = some c → c ∉ fp := fun z hz c hc hm => by
    obtain ⟨o, e, _, h2⟩ := hfp _ hm
    obtain ⟨_, c', v₀, e', o', ho', hd'⟩ := F₂.cs z hz
    rw [hc] at e'; cases e'
    rw [e] at ho'; cases ho'; exact h2 _ hd'
  have sub := (Wl A hA).sub
  have hLw : env.locals ∉ wr := fun h => hLfp (sub _ h)
  refine codeAny_forLoop (fun m s' => ∃ i, FI X τ h₀ own env (ρs i) s'.heap ∧ St i s'.heap ∧ (∃ h tk, s' = { s₂ with heap := h, toks := tk }) ∧
    (∀ b o, hb.get? b = some o → b ≠ env.locals → (∀ z ∈ own, env.cells.lookup z ≠ some b) → s'.heap.get? b = some o) ∧ i ≤ k ∧ m = items.length + 1 - i) ?_ (items.length + 1)
    ⟨0, h0 ▸ F₂, hst, ⟨s₂.heap, s₂.toks, rfl⟩, fun b o e _ _ => kb' b o e, Nat.zero_le _, rfl⟩
  rintro m s' ⟨i, F', hst', ⟨h', tk, rfl⟩, G, hi, rfl⟩
  have hLhb : ∃ o es n, hb.get? env.locals = some o ∧ o.data = .dict es n := by
    obtain ⟨m, ⟨o, es, n, ho, hd, _⟩, _⟩ := F.L
    exact ⟨o, es, n, kb _ _ ho, hd⟩
  have hchb : ∀ z ∈ own, ∀ c, env.cells.lookup z = some c → ∃ o v, hb.get? c = some o ∧ o.data = .cell v := fun z hz c hc => by
    obtain ⟨_, c', v₀, e', o, ho, hd⟩ := F.cs z hz
    rw [hc] at e'; cases e'
    exact ⟨o, _, kb _ _ ho, hd⟩
  have old : ∀ b, (∃ o, s.heap.get? b = some o) → b ∉ wr := fun b ⟨o, e⟩ hw => by have := kb _ _ e; rw [hwr b hw] at this; cases this
  have step : ∀ {j : Nat} {h h₁ : Heap}, FI X τ h₀ own env (ρs j) h → St j h → (∀ b o, b ∉ wr → h.get? b = some o → h₁.get? b = some o) → FI X τ h₀ own env (ρs j) h₁ := fun F' st' hk₁ =>
    F'.wr (Wr := (· ∈ wr)) hk₁ hLw (fun z c hc hk => by
      obtain ⟨_, c', v₀, e', o, ho, _⟩ := F.cs z (allOwn_at hown hk)
      rw [hc] at e'; cases e'
      exact old c ⟨o, ho⟩) (fun b o e => old b ⟨o, F.keep _ _ e⟩) (fun a ha => old a (F.xs a ha)) fun b o hw _ e => hsq _ _ st' b hw o e
  have hlt : i < items.length := by omega
  refine (Wl A hA).item i _ _ _ hlt hst' fun v h₁ tk₁ hPv hst₁ hk₁ => ?_
  obtain ⟨p, hp, hr⟩ := hP i v hPv hlt
  have G₁ : ∀ b o, hb.get? b = some o → b ≠ env.locals → (∀ z ∈ own, env.cells.lookup z ≠ some b) → h₁.get? b = some o := fun b o e h1 h2 => hk₁ b o (fun hw => by rw [hwr b hw] at e; cases e) (G b o e h1 h2)
  have hr₁ : Rep X h₁ p v := hr.stayS (fun b o e _ hseq => by
    obtain ⟨xs, n, hd⟩ := hseq
    refine G₁ b o e (fun hb' => ?_) fun z hz hc => ?_
    · subst hb'
      obtain ⟨o', es, n', ho', hd'⟩ := hLhb
      rw [e] at ho'; cases ho'; rw [hd] at hd'; cases hd'
    · obtain ⟨o', u, ho', hd'⟩ := hchb z hz b hc
      rw [e] at ho'; cases ho'; rw [hd] at hd'; cases hd') _ _
  -- the frame behind the iterator's step
  have F₁ : FI X τ h₀ own env (ρs i) h₁ := step F' hst' hk₁
  refine wpAny_assign_Name (store_ (s := { s₂ with heap := h₁, toks := tk₁ }) F₁ hx hr₁ fun s₃ k₃ F₃ => ?_)

  by_cases hik : i < k
  · refine (hbody i p hik hp).run X h₀ s₃ _ _ F₃ fun s₄ k₄ F₄ => ?_
    have k34 := fk_trans k₃ k₄
    refine ⟨items.length + 1 - (i + 1), by omega, i + 1, F₄, ?_, ?_, fun b o e h1 h2 => k34.2 b o (G₁ b o e h1 h2) h1 h2, by omega, rfl⟩
    · exact (Wl A hA).frame _ _ _ hst₁ fun b hb' o e => k34.2 b o e (fun h => hLfp (h ▸ hb')) fun z hz hc => hcfp z hz b hc hb'
    · obtain ⟨⟨h4, t4, e4⟩, _⟩ := k34
      exact ⟨h4, t4, e4⟩
  · obtain rfl : i = k := by omega
    refine (hret p hp).run X h₀ s₃ _ _ F₃ fun v s₄ k₄ st₄ r₄ => ?_
    have k34 := fk_trans k₃ k₄
    refine hQ v s₄ ?_ st₄ r₄
    obtain ⟨⟨h4, t4, e4⟩, kk⟩ := k34
    obtain ⟨h2, t2, rfl, _⟩ := k₂
    exact ⟨⟨h4, t4, e4⟩, fun b o e h1 h2 => kk b o (G₁ b o (kb _ _ e) h1 h2) h1 h2⟩

/-- while: turn by turn -/
theorem exs_while {test : Expr} {body : List Stmt} {pos : Pos} (ρs : Nat → List (Str × PV)) (n : Nat) (h0 : ρs 0 = ρ) (ht : ∀ i, i < n → Tr prog w τ A env (ρs i) test true) (hf : Tr prog w τ A env (ρs n) test false)
    (hbody : ∀ i, i < n → Ex prog w τ A own env (ρs i) body (.next (ρs (i + 1)))) : ExS prog w τ A own env ρ (.While test body [] pos) (.next (ρs n)) := .mk fun X h₀ s Q E F hQ => by
  refine wpAny_While (codeAny_whileLoop (fun m s' => ∃ i, i ≤ n ∧ m = n - i ∧ FI X τ h₀ own env (ρs i) s'.heap ∧ FK own env s s') ?_ n ⟨0, Nat.zero_le _, rfl, h0 ▸ F, fk_refl s⟩)
  rintro m s' ⟨i, hi, rfl, F', k'⟩
  by_cases hlt : i < n
  · refine (ht i hlt).run X h₀ own s' _ _ F' fun s₂ k₂ => ?_
    rw [if_pos rfl]
    refine (hbody i hlt).run X h₀ s₂ _ _ (F'.fk k₂) fun s₃ k₃ F₃ => ?_
    exact ⟨n - (i + 1), by omega, i + 1, hlt, rfl, F₃, fk_trans k' (fk_trans (fk_keeps k₂) k₃)⟩
  · obtain rfl : i = n := by omega
    refine hf.run X h₀ own s' _ _ F' fun s₂ k₂ => ?_
    rw [if_neg (by decide)]
    exact wpAny_execs_nil (hQ s₂ (fk_trans k' (fk_keeps k₂)) (F'.fk k₂))

end
end Mine

/-! H1 -/
namespace Mine
set_option linter.unusedVariables false

/-- a pair of a display that is a whole number and a text -/
structure CP (prog : Program) (w : World) (p : Sem Value × Sem Value) (c : Int × Str) : Prop where
  key : ∀ (A : Around) (s : Shared) (Q : Value → Shared → Prop) (E : Value → Shared → Prop), Q (.int c.1 s.toks) { s with toks := s.toks + 1 } → wpAny (model prog w) A p.1 Q E s
  val : ∀ (A : Around) (s : Shared) (Q : Value → Shared → Prop) (E : Value → Shared → Prop), Q (.str c.2 s.toks) { s with toks := s.toks + 1 } → wpAny (model prog w) A p.2 Q E s

inductive CPs (prog : Program) (w : World) : List (Sem Value × Sem Value) → List (Int × Str) → Prop
  | nil : CPs prog w [] []
  | cons {p c ps cs} : CP prog w p c → CPs prog w ps cs → CPs prog w (p :: ps) (c :: cs)

theorem CPs.length {prog : Program} {w : World} {ps : List (Sem Value × Sem Value)} {cs : List (Int × Str)} (h : CPs prog w ps cs) : ps.length = cs.length := by
  induction h with
  | nil => rfl
  | cons _ _ ih => simp [ih]
theorem CPs.snoc {prog : Program} {w : World} {ps : List (Sem Value × Sem Value)} {cs : List (Int × Str)} {p : Sem Value × Sem Value} {c : Int × Str} (h : CPs prog w ps cs) (hp : CP prog w p c) : CPs prog w (ps ++ [p]) (cs ++ [c]) := by
  induction h with
  | nil => exact .cons hp .nil
  | cons h1 _ ih => exact .cons h1 ih

/-- what the dict holds of them -/
def Sts : List (Int × Value) → List (Int × Str) → Prop
  | [], [] => True
  | kv :: r, c :: cs => kv.1 = c.1 ∧ (∃ t, kv.2 = .str c.2 t) ∧ Sts r cs
  | _, _ => False
theorem Sts.keys : ∀ {kvs : List (Int × Value)} {cs : List (Int × Str)}, Sts kvs cs → kvs.map (·.1) = cs.map (·.1)
  | [], [], _ => rfl
  | kv :: r, c :: cs, h => by rw [List.map_cons, List.map_cons, h.1, Sts.keys h.2.2]
  | [], _ :: _, h => h.elim
  | _ :: _, [], h => h.elim
theorem Sts.append : ∀ {kvs kvs' : List (Int × Value)} {cs cs' : List (Int × Str)}, Sts kvs cs → Sts kvs' cs' → Sts (kvs ++ kvs') (cs ++ cs')
  | [], _, [], _, _, h' => h'
  | kv :: r, _, c :: cs, _, h, h' => ⟨h.1, h.2.1, Sts.append h.2.2 h'⟩
  | [], _, _ :: _, _, h, _ => h.elim
  | _ :: _, _, [], _, h, _ => h.elim
theorem Sts.len {kvs : List (Int × Value)} {cs : List (Int × Str)} (h : Sts kvs cs) : kvs.length = cs.length := by
  have := congrArg List.length h.keys
  simpa using this
theorem Sts.at : ∀ {kvs : List (Int × Value)} {cs : List (Int × Str)}, Sts kvs cs → ∀ k, (cs.lookup k = none → valueAt kvs k = none) ∧ (∀ x, cs.lookup k = some x → ∃ t, valueAt kvs k = some (.str x t))
  | [], [], _, k => ⟨fun _ => rfl, fun x h => by cases h⟩
  | (k', v) :: r, (c, x) :: cs, h, k => by
    obtain ⟨h1, ⟨t, h2⟩, h3⟩ := h
    dsimp only at h1 h2
    subst h1 h2
    have ih := Sts.at h3 k
    rw [List.lookup_cons]
    unfold valueAt at ih ⊢
    rw [List.find?_cons]
    by_cases hk : k = k'
    · subst hk
      simp
    · have : (k == k') = false := by simpa using hk
      have hk2 : ¬ k' = k := fun e => hk e.symm
      rw [this]
      simp only [hk2, decide_false]
      exact ih
  | [], _ :: _, h, _ => h.elim
  | _ :: _, [], h, _ => h.elim

section
variable {prog : Program} {w : World} {A : Around} {E : Value → Shared → Prop}

theorem put_pairs {s : Shared} {d : Addr} {kvs : List (Int × Value)} {k : Int} {key v : Value} {Q : Unit → Shared → Prop} (hkey : (intKind prog w).is k key = true) (hm : s.heap.DictOf (intKind prog w) d kvs)
    (hQ : ∀ h', h'.DictOf (intKind prog w) d (stored kvs k v) → Heap.SameBut d s.heap h' → Q () { s with heap := h' })
    (hsz : kvs.length ≤ sizeLine) :
    wpAny (model prog w) A (dictPut d ((intKind prog w).hash k) key v) Q E s := by
  obtain ⟨o, es, ep, ho, hc, hd, hk, hp, hn⟩ := hm
  have hes : es.size ≤ sizeLine := by have e1 := hp.length; have e2 : es.toList.length = es.size := by simp
                                      omega
  unfold dictPut
  refine wpAny_bind (wpAny_dictFind_of hkey ho hd hk ?_)
  have hidx : (es.findIdx? fun e => (intKind prog w).is k e.key) = kvs.findIdx? fun kv => decide (kv.1 = k) := by
    rw [← hp.findIdx k]; obtain ⟨l⟩ := es; simp
  cases hi : es.findIdx? fun e => (intKind prog w).is k e.key with
  | some i =>
    refine wpAny_updateDict ho hd (hQ _ ⟨_, _, ep, Heap.get?_update_self _ ho (Obj.isFreed_of_dict (Obj.data_mapDict hd _)),
      hc.mapDict _, Obj.data_mapDict hd _, hk.modify _ _, ?_, ?_⟩ (Heap.SameBut.update ..))
    · rw [stored, if_pos (any_of_findIdx_some (hidx ▸ hi))]
      have hl : (es.toList.findIdx? fun e => (intKind prog w).is k e.key) = some i := by rw [← hi]; obtain ⟨l⟩ := es; simp
      have := hp.modify hn hl v
      obtain ⟨l⟩ := es
      simpa using this
    · rw [stored, if_pos (any_of_findIdx_some (hidx ▸ hi)), keys_map_store]; exact hn
  | none =>
    have hnot : k ∉ kvs.map (·.1) := not_mem_of_findIdx_none (hidx ▸ hi)
    have hany : ¬ (kvs.any fun kv => decide (kv.1 = k)) = true := by
      rw [List.any_eq_true]; rintro ⟨kv, hkv, he⟩
      exact hnot (List.mem_map.mpr ⟨kv, hkv, of_decide_eq_true he⟩)
    refine wpAny_updateDictKeys (hz := hes) ho hd (hQ _ ⟨_, _, ep + 1, Heap.get?_update_self _ ho (Obj.isFreed_of_dict (Obj.data_mapDictKeys hd _)),
      hc.mapDictKeys _, Obj.data_mapDictKeys hd _, hk.push hkey _, ?_, ?_⟩ (Heap.SameBut.update ..))
    · rw [stored, if_neg hany]
      have := hp.append hkey ((intKind prog w).hash k) v
      obtain ⟨l⟩ := es
      simpa using this
    · rw [stored, if_neg hany, List.map_append, List.nodup_append]
      refine ⟨hn, by simp, ?_⟩
      intro a ha b hb
      simp only [List.map_cons, List.map_nil, List.mem_singleton] at hb
      subst hb
      exact fun e => hnot (e ▸ ha)

theorem eval_pairs {pairs : List (Sem Value × Sem Value)} {cs : List (Int × Str)} (h : CPs prog w pairs cs) : ∀ (A : Around) (s : Shared) (Q : List (Value × Value) → Shared → Prop) (E : Value → Shared → Prop),
    (∀ vs kvs tk, Carries (intKind prog w) vs kvs → Sts kvs cs → Q vs { s with toks := tk }) → wpAny (model prog w) A (evalPairs pairs) Q E s := by
  induction h with
  | nil => exact fun A s Q E hQ => evalPairs_nil (hQ [] [] s.toks trivial trivial)
  | @cons p c ps cs hp _ ih =>
    intro A s Q E hQ
    obtain ⟨k, v⟩ := p
    refine evalPairs_cons (hp.key A s _ E (hp.val A _ _ E (ih A _ _ E fun vs kvs tk hc hs => ?_)))
    exact hQ _ ((c.1, .str c.2 (s.toks + 1)) :: kvs) tk ⟨intKind_is prog w _ _, rfl, hc⟩ ⟨rfl, ⟨_, rfl⟩, hs⟩

/-- the long road: one after the other -/
theorem store_each {d : Addr} {pairs : List (Sem Value × Sem Value)} {cs : List (Int × Str)} (h : CPs prog w pairs cs) (f : Sem Value × Sem Value → PUnit → Sem (ForInStep PUnit))
    (hf : ∀ k v u, f (k, v) u = (do let kv ← k; let vv ← holding [kv] v; holding [kv, vv] (dictSet d kv vv); pure (.yield PUnit.unit))) :
    ∀ (A : Around) (acc : List (Int × Value)) (acs : List (Int × Str)) (s : Shared) (Q : PUnit → Shared → Prop) (E : Value → Shared → Prop), Sts acc acs → ((acs ++ cs).map (·.1)).Nodup → s.heap.DictOf (intKind prog w) d acc → (acs ++ cs).length ≤ sizeLine →
      (∀ h' tk kvs, h'.DictOf (intKind prog w) d kvs → Sts kvs (acs ++ cs) → Heap.SameBut d s.heap h' → Q PUnit.unit { s with heap := h', toks := tk }) →
      wpAny (model prog w) A (forIn pairs PUnit.unit f) Q E s := by
  induction h with
  | nil =>
    intro A acc acs s Q E ha _ hd _ hQ
    rw [List.forIn_nil]
    have := hQ s.heap s.toks acc hd (by simpa using ha) (Heap.SameBut.refl _ _)
    exact wpAny_pure this
  | @cons p c ps cs hp _ ih =>
    intro A acc acs s Q E ha hnd hd hsz hQ
    obtain ⟨k, v⟩ := p
    rw [List.forIn_cons, hf]
    refine wpAny_bind (wpAny_bind (hp.key A s _ E (wpAny_bind (wpAny_holding (hp.val A _ _ E (wpAny_bind (wpAny_holding ?_)))))))
    refine wpAny_dictSet_pairs (k := c.1) (hsz := by rw [List.length_append] at hsz; rw [ha.len]; omega) (intKind_is prog w _ _) hd fun h₁ hd₁ hs₁ => wpAny_pure ?_
    have hnot : ¬ (acc.any fun kv => decide (kv.1 = c.1)) = true := by
      rw [List.any_eq_true]
      rintro ⟨kv, hkv, he⟩
      have hm : kv.1 ∈ acs.map (·.1) := by rw [← ha.keys]; exact List.mem_map.mpr ⟨kv, hkv, rfl⟩
      rw [List.map_append, List.nodup_append] at hnd
      exact hnd.2.2 _ hm c.1 (by simp) (of_decide_eq_true he)
    have hst : stored acc c.1 (.str c.2 (s.toks + 1)) = acc ++ [(c.1, .str c.2 (s.toks + 1))] := by rw [stored, if_neg hnot]
    rw [hst] at hd₁
    have e : acs ++ c :: cs = (acs ++ [c]) ++ cs := by simp
    refine ih A (acc ++ [(c.1, .str c.2 (s.toks + 1))]) (acs ++ [c]) _ Q E (ha.append ⟨rfl, ⟨_, rfl⟩, trivial⟩) (e ▸ hnd) hd₁ (e ▸ hsz) fun h' tk kvs hd' hs' hb' => ?_
    exact hQ h' tk kvs hd' (e ▸ hs') (hs₁.trans hb')

theorem stay_of_sameBut_new {h h' : Heap} {d : Addr} {o : Obj} (hd : d = h.objs.size) (hs : Heap.SameBut d (h.push o) h') : Stay h h' := fun b ob e =>
  (hs.2 b (fun hb => by subst hb; exact absurd (Heap.lt_size e) (by rw [hd]; exact Nat.lt_irrefl _))).trans (Heap.get?_push_of_some _ e)

theorem sub_dict {pairs : List (Sem Value × Sem Value)} {cs : List (Int × Str)} (h : CPs prog w pairs cs) (hnd : (cs.map (·.1)).Nodup) (hsz : cs.length ≤ sizeLine) {s : Shared} {Q : Addr → Shared → Prop}
    (hQ : ∀ h' tk kvs, h'.DictOf (intKind prog w) s.heap.objs.size kvs → Sts kvs cs → Stay s.heap h' → Q s.heap.objs.size { s with heap := h', toks := tk }) :
    wpAny (model prog w) A (subDict pairs) Q E s := by
  unfold subDict
  refine wpAny_bind (wpAny_alloc ?_)
  refine wpAny_bind (wpAny_holding ?_)
  have hnew : (s.heap.push { cls := .type "dict", data := .dict #[] }).DictOf (intKind prog w) s.heap.objs.size [] := Heap.DictOf.new _
  by_cases hlen : pairs.length ≤ 15
  · rw [if_pos hlen]
    refine wpAny_bind (eval_pairs h A _ _ E fun vs kvs tk hc hs => ?_)
    have hkn : (kvs.map (·.1)).Nodup := by rw [hs.keys]; exact hnd
    refine wpAny_holding ?_
    refine wpAny_bind (wpAny_storeAll (knd := intKind prog w) vs kvs [] _ _ hc hnew (by simpa [hs.len] using hsz) fun h' hm' hs' => wpAny_pure (wpAny_pure ?_))
    rw [merged_nil_of_nodup kvs hkn] at hm'
    exact hQ h' _ kvs hm' hs (stay_of_sameBut_new rfl hs')
  · rw [if_neg hlen]
    refine wpAny_bind (wpAny_rule ?_)
    refine wpAny_bind (store_each h _ (fun _ _ _ => rfl) A [] [] _ _ E trivial (by simpa using hnd) hnew (by simpa using hsz) fun h' tk kvs hd' hs' hb' => wpAny_pure (wpAny_pure ?_))
    exact hQ h' tk kvs hd' hs' (stay_of_sameBut_new rfl hb')
end
end Mine

/-! H2 -/
namespace Mine
set_option linter.unusedVariables false
section
variable {prog : Program} {w : World} {A : Around} {E : Value → Shared → Prop}

theorem nokeys {prog : Program} {w : World} {e : DictEntry} {k : Int} (h : (intKind prog w).is k e.key = true) : ∃ t, e.key = .int k t := Value.isInt_shape h

theorem merge_map {s : Shared} {d o : Addr} {kvs more : List (Int × Value)} {Q : Unit → Shared → Prop} (hdo : d ≠ o) (hoS : (o == sysModules) = false)
    (hd : s.heap.DictOf (intKind prog w) d kvs) (ho : s.heap.DictOf (intKind prog w) o more)
    (hQ : ∀ h', h'.DictOf (intKind prog w) d (merged kvs more) → Heap.SameBut d s.heap h' → Q () { s with heap := h' })
    (hsz : kvs.length + more.length ≤ sizeLine) :
    wpAny (model prog w) A (mergeMapping d (.ref o) false) Q E s := by
  obtain ⟨od, esd, epd, hod, hcd, hdd, hkd, hpd, hnd⟩ := id hd
  obtain ⟨oo, eso, epo, hoo, hco, hdo', hko, hpo, hno⟩ := id ho
  have hlen : more.length = eso.size := by rw [← hpo.length]; simp
  unfold mergeMapping
  refine wpAny_bind (wpAny_isInstance ho.typeIs isSubtype_dict_dict ?_)
  simp only [if_true]
  refine wpAny_bind (wpAny_specialOf ho.typeIs F.slot_dict_iter.lookup (wpAny_bind (wpAny_pure ?_)))
  simp only [beq_self_eq_true, Bool.false_eq_true, if_false]
  rw [if_neg (by rw [hoS]; exact Bool.false_ne_true)]
  have loop : wpAny (model prog w) A (do
      let es ← dictEntries o
      let epoch ← dictEpoch o
      forIn (List.range es.size) PUnit.unit fun i (_ : PUnit) => (do
          let l' ← dictEntries o
          match l'[i]? with
            | some e => do
              holding [e.key, e.val] (dictPut d e.hash e.key e.val)
              let ep' ← dictEpoch o
              if (ep' != epoch) = true then do
                  (unsupported "dict.changed-during-merge" : Sem PUnit)
                  pure (ForInStep.yield PUnit.unit)
                else pure (ForInStep.yield PUnit.unit)
            | _ => do
              (unsupported "dict.changed-during-merge" : Sem PUnit)
              pure (ForInStep.yield PUnit.unit) : Sem (ForInStep PUnit))
      pure ()) Q E s := by
    refine wpAny_bind (wpAny_dictEntries hoo hdo' ?_)
    refine wpAny_bind (wpAny_dictEpoch hoo hdo' ?_)
    refine wpAny_bind ?_
    rw [List.range_eq_range']
    refine wpAny_forIn_list _
      (fun rest _ s' => ∃ h' i, s' = { s with heap := h' } ∧ rest = List.range' i (eso.size - i) ∧ i ≤ eso.size ∧ h'.DictOf (intKind prog w) d (merged kvs (more.take i)) ∧ h'.get? o = some oo ∧ Heap.SameBut d s.heap h')
      _ ?_ ?_ _ _ ⟨s.heap, 0, rfl, by simp, Nat.zero_le _, by simpa [merged] using hd, hoo, Heap.SameBut.refl _ _⟩
    · rintro x rest b s' ⟨h', i, rfl, hr, hi, hd', hoo', hs'⟩
      have hlt : i < eso.size := by
        rcases Nat.lt_or_ge i eso.size with h | h
        · exact h
        · rw [Nat.sub_eq_zero_of_le h] at hr; simp at hr
      obtain ⟨rfl, hrest⟩ : x = i ∧ rest = List.range' (i + 1) (eso.size - (i + 1)) := by
        have e : eso.size - i = (eso.size - (i + 1)) + 1 := by omega
        rw [e, List.range'_succ] at hr
        injection hr with h1 h2
        exact ⟨h1, h2⟩
      refine wpAny_bind (wpAny_dictEntries hoo' hdo' ?_)
      rw [Array.getElem?_eq_getElem hlt]
      obtain ⟨kv, hkv⟩ : ∃ kv, more[x]? = some kv := ⟨more[x]'(by rw [hlen]; exact hlt), List.getElem?_eq_getElem _⟩
      obtain ⟨k, v⟩ := kv
      obtain ⟨hkey, hval⟩ := hpo.get? (e := eso[x]) (by simp [hlt]) hkv
      obtain ⟨k', hkey', hhash⟩ := hko eso[x] (Array.getElem_mem hlt)
      obtain rfl : k' = k := (intKind prog w).inj _ _ _ hkey' hkey
      show wpAny _ _ (holding [eso[x].key, eso[x].val] (dictPut d eso[x].hash eso[x].key eso[x].val) >>= _) _ _ _
      rw [hhash, hval]
      have hmx : (merged kvs (more.take x)).length ≤ sizeLine := by
        have e1 := merged_length_le kvs (more.take x)
        have e2 : (more.take x).length ≤ more.length := by rw [List.length_take]; omega
        omega
      refine wpAny_bind (wpAny_holding (put_pairs (hsz := hmx) hkey hd' fun h'' hd'' hs'' => ?_))
      have hoo'' : h''.get? o = some oo := (hs''.2 o (Ne.symm hdo)).trans hoo'
      refine wpAny_bind (wpAny_dictEpoch hoo'' hdo' ?_)
      rw [if_neg (by simp)]
      exact wpAny_pure ⟨h'', x + 1, rfl, hrest, hlt, by rw [merged_take_succ kvs more x (k', v) hkv]; exact hd'', hoo'', hs'.trans hs''⟩
    · rintro b s' ⟨h', i, rfl, hr, hi, hd', hoo', hs'⟩
      have hin : i = eso.size := by
        rcases Nat.lt_or_ge i eso.size with h | h
        · have e : eso.size - i = (eso.size - (i + 1)) + 1 := by omega
          rw [e, List.range'_succ] at hr; exact nomatch hr
        · exact Nat.le_antisymm hi h
      refine wpAny_pure (hQ h' ?_ hs')
      rw [hin, ← hlen, List.take_length] at hd'; exact hd'
  refine wpAny_bind (wpAny_dictEntries hod hdd ?_)
  split
  · refine wpAny_bind (wpAny_dictEntries hoo hdo' ?_)
    refine wpAny_bind (wpAny_of_eq (a := PUnit.unit) ?_ loop)
    rw [← Array.forIn_toList]
    refine forIn_yield_id _ fun e he c => ?_
    obtain ⟨k, hkey, _⟩ := hko e (Array.mem_toList_iff.mp he)
    obtain ⟨t, ht⟩ := nokeys hkey
    rw [ht]
  · exact loop
end
end Mine

/-! H3 -/
namespace Mine
set_option linter.unusedVariables false

def flush (run : List (Sem Value × Sem Value)) (main : Option Addr) : Sem (Option Addr) :=
  if run.isEmpty then pure main else
  match main with
  | none => do return some (← subDict run)
  | some d => do
    let sub ← holding [.ref d] (subDict run)
    (holding [.ref d, .ref sub] (mergeMapping d (.ref sub) false)).onRaise fun x => do let _ ← holding [.ref d, x] (runValue (.builtin "proto.let_go" {}))
    return some d

/-- what the display's road holds -/
def Main (prog : Program) (w : World) (s₀ s : Shared) (m : Option Addr) (done : List (Int × Str)) : Prop :=
  match m with
  | none => done = [] ∧ s = s₀
  | some d => d = s₀.heap.objs.size ∧ ∃ h tk kvs, s = { s₀ with heap := h, toks := tk } ∧ h.DictOf (intKind prog w) d kvs ∧ Sts kvs done ∧ Stay s₀.heap h

section
variable {prog : Program} {w : World} {A : Around} {E : Value → Shared → Prop}

theorem flush_ {s₀ s : Shared} {m : Option Addr} {done : List (Int × Str)} {run : List (Sem Value × Sem Value)} {cs : List (Int × Str)} (hlow : sysModules < s₀.heap.objs.size) (hm : Main prog w s₀ s m done) (h : CPs prog w run cs) (hne : run ≠ [])
    (hnd : ((done ++ cs).map (·.1)).Nodup) (hsz : (done ++ cs).length ≤ sizeLine) {Q : Option Addr → Shared → Prop}
    (hQ : ∀ m' s', m'.isSome = true → Main prog w s₀ s' m' (done ++ cs) → Q m' s') : wpAny (model prog w) A (flush run m) Q E s := by
  unfold flush
  have hie : run.isEmpty = false := by cases run with
    | nil => exact absurd rfl hne
    | cons _ _ => rfl
  rw [hie]
  simp only [Bool.false_eq_true, if_false]
  have hndc : (cs.map (·.1)).Nodup := by rw [List.map_append, List.nodup_append] at hnd; exact hnd.2.1
  have hszc : cs.length ≤ sizeLine := by rw [List.length_append] at hsz; omega
  cases m with
  | none =>
    obtain ⟨rfl, rfl⟩ := hm
    refine wpAny_bind (sub_dict h hndc hszc fun h' tk kvs hd hs hk => wpAny_pure (hQ _ _ rfl ?_))
    exact ⟨rfl, h', tk, kvs, rfl, hd, by simpa using hs, hk⟩
  | some d =>
    obtain ⟨rfl, h₁, tk₁, kvs₁, rfl, hd₁, hs₁, hk₁⟩ := hm
    refine wpAny_bind (wpAny_holding (sub_dict h hndc hszc fun h' tk kvs hd hs hk => ?_))
    dsimp only at hd hk ⊢
    have hlt : s₀.heap.objs.size < h₁.objs.size := by obtain ⟨o, _, _, ho, _⟩ := hd₁; exact Heap.lt_size ho
    have hne : s₀.heap.objs.size ≠ h₁.objs.size := Nat.ne_of_lt hlt
    refine wpAny_bind (wpAny_onRaise (wpAny_holding (merge_map hne (beq_eq_false_iff_ne.mpr (Nat.ne_of_gt (Nat.lt_trans hlow hlt))) (hd₁.at fun o e => hk _ _ e) hd (fun h'' hd'' hs'' => wpAny_pure (hQ _ _ rfl ?_)) (by rw [hs₁.len, hs.len]; simpa using hsz))))
    refine ⟨rfl, h'', tk, merged kvs₁ kvs, rfl, hd'', ?_, fun b o e => (hs''.2 b (Nat.ne_of_lt (Heap.lt_size e))).trans (hk _ _ (hk₁ _ _ e))⟩
    rw [merged_append_of_fresh kvs₁ kvs (by rw [List.map_append, hs₁.keys, hs.keys, ← List.map_append]; exact hnd)]
    exact hs₁.append hs

theorem display_loop {s₀ : Shared} (hlow : sysModules < s₀.heap.objs.size) (f : (Option (Sem Value) × Sem Value) → (Option Addr × List (Sem Value × Sem Value)) → Sem (ForInStep (Option Addr × List (Sem Value × Sem Value))))
    (hf : ∀ (p : Sem Value × Sem Value) (m : Option Addr) (run : List (Sem Value × Sem Value)), f (some p.1, p.2) (m, run) = if ((run ++ [(p.1, p.2)]).length == 17) = true then (do let m' ← flush (run ++ [(p.1, p.2)]) m; pure (.yield (m', []))) else pure (.yield (m, run ++ [(p.1, p.2)])))
    {pairs : List (Sem Value × Sem Value)} {cs : List (Int × Str)} (h : CPs prog w pairs cs) :
    ∀ (A : Around) (m : Option Addr) (run : List (Sem Value × Sem Value)) (done rc : List (Int × Str)) (s : Shared) (Q : Option Addr × List (Sem Value × Sem Value) → Shared → Prop) (E : Value → Shared → Prop),
      Main prog w s₀ s m done → CPs prog w run rc → ((done ++ rc ++ cs).map (·.1)).Nodup → (done ++ rc ++ cs).length ≤ sizeLine →
      (∀ m' run' done' rc' s', Main prog w s₀ s' m' done' → CPs prog w run' rc' → done' ++ rc' = done ++ rc ++ cs → Q (m', run') s') →
      wpAny (model prog w) A (forIn (pairs.map fun p => (some p.1, p.2)) (m, run) f) Q E s := by
  induction h with
  | nil =>
    intro A m run done rc s Q E hm hr hnd hsz hQ
    rw [List.map_nil, List.forIn_nil]
    exact wpAny_pure (hQ m run done rc s hm hr (by simp))
  | @cons p c ps cs hp _ ih =>
    intro A m run done rc s Q E hm hr hnd hsz hQ
    have e : done ++ rc ++ c :: cs = done ++ (rc ++ [c]) ++ cs := by simp
    rw [List.map_cons, List.forIn_cons, hf]
    split
    · refine wpAny_bind (wpAny_bind (flush_ hlow hm (hr.snoc hp) (by simp) ?_ ?_ fun m' s' _ hm' => wpAny_pure ?_))
      · rw [e, List.map_append, List.nodup_append] at hnd; exact hnd.1
      · rw [e, List.length_append] at hsz; omega
      · refine ih A m' [] (done ++ (rc ++ [c])) [] s' Q E hm' .nil (by simpa using hnd) (by simpa using hsz) fun m'' run'' done'' rc'' s'' h1 h2 h3 => hQ _ _ _ _ _ h1 h2 (by rw [h3]; simp)
    · refine wpAny_bind (wpAny_pure ?_)
      exact ih A m _ done (rc ++ [c]) s Q E hm (hr.snoc hp) (by rw [← e]; exact hnd) (by rw [← e]; exact hsz) fun m'' run'' done'' rc'' s'' h1 h2 h3 => hQ _ _ _ _ _ h1 h2 (by rw [h3, e])

theorem display {pairs : List (Sem Value × Sem Value)} {cs : List (Int × Str)} (h : CPs prog w pairs cs) (hne : cs ≠ []) (hnd : (cs.map (·.1)).Nodup) (hsz : cs.length ≤ sizeLine) {s : Shared} (hlow : sysModules < s.heap.objs.size) {Q : Value → Shared → Prop}
    (hQ : ∀ h' tk kvs, h'.DictOf (intKind prog w) s.heap.objs.size kvs → Sts kvs cs → Stay s.heap h' → Q (.ref s.heap.objs.size) { s with heap := h', toks := tk }) :
    wpAny (model prog w) A (dictDisplay (pairs.map fun p => (some p.1, p.2))) Q E s := by
  have fin : ∀ m s', m.isSome = true → Main prog w s s' m cs → wpAny (model prog w) A (match m with | some d => pure (.ref d) | none => newDict) Q E s' := fun m s' hm H => by
    cases m with
    | none => cases hm
    | some d =>
      obtain ⟨rfl, h', tk, kvs, rfl, hd, hs, hk⟩ := H
      exact wpAny_pure (hQ h' tk kvs hd hs hk)
  show wpAny _ _ (forIn _ ((none : Option Addr), ([] : List (Sem Value × Sem Value))) _ >>= _) _ _ _
  refine wpAny_bind (display_loop (prog := prog) (w := w) hlow _ (fun _ _ _ => ?_) h A none [] [] [] s _ _ ⟨rfl, rfl⟩ .nil (by simpa using hnd) (by simpa using hsz) fun m' run' done' rc' s' hm hr e => ?_)
  · rfl
  · dsimp only
    simp only [List.nil_append, List.append_nil] at e
    show wpAny _ _ (flush run' m' >>= _) _ _ _
    by_cases hrun : run' = []
    · subst hrun
      cases hr
      rw [List.append_nil] at e; subst e
      show wpAny _ _ (pure m' >>= _) _ _ _
      refine wpAny_bind (wpAny_pure (fin m' s' ?_ hm))
      cases m' with
      | none => exact absurd hm.1 hne
      | some d => rfl
    · exact wpAny_bind (flush_ hlow hm hr hrun (by rw [e]; exact hnd) (by rw [e]; exact hsz) fun m'' s'' h1 h2 => fin m'' s'' h1 (e ▸ h2))

/-- the display's constants -/
def constsOf : List (Option Expr) → List Expr → Option (List (Int × Str))
  | [], [] => some []
  | some (.Constant (.int k) _ _) :: ks, .Constant (.str x) _ _ :: vs => (constsOf ks vs).map ((k, x) :: ·)
  | _, _ => none

theorem constsOf_cps {env : Env} {pos : Pos} : ∀ {keys : List (Option Expr)} {values : List Expr} {cs : List (Int × Str)}, constsOf keys values = some cs → CPs prog w (pairTrees keys values env pos) cs ∧ keys.all (·.isSome) = true ∧ keys.length = values.length
  | [], [], cs, h => by cases h; exact ⟨.nil, rfl, rfl⟩
  | some (.Constant (.int k) a b) :: ks, .Constant (.str x) c d :: vs, cs, h => by
    unfold constsOf at h
    obtain ⟨cs', e, rfl⟩ := Option.map_eq_some_iff.mp h
    obtain ⟨h1, h2, h3⟩ := constsOf_cps (env := env) (pos := pos) e
    refine ⟨.cons ⟨fun A s Q E hq => wpAny_Constant_int (env := env) (k := a) (pos := b) hq, fun A s Q E hq => wpAny_bind (wpAny_Constant_str (wpAny_bind (wpAny_standAt (wpAny_pure hq))))⟩ h1, ?_, by simp [h3]⟩
    rw [List.all_cons, h2]; rfl

theorem dict_display {env : Env} {keys : List (Option Expr)} {values : List Expr} {pos : Pos} {cs : List (Int × Str)} (hc : constsOf keys values = some cs) (hne : cs ≠ []) (hnd : (cs.map (·.1)).Nodup) (hsz : cs.length ≤ sizeLine) {s : Shared} (hlow : sysModules < s.heap.objs.size)
    {Q : Value → Shared → Prop}
    (hQ : ∀ h' tk kvs, h'.DictOf (intKind prog w) s.heap.objs.size kvs → Sts kvs cs → Stay s.heap h' → Q (.ref s.heap.objs.size) { s with heap := h', toks := tk }) :
    wpAny (model prog w) A (eval (.Dict keys values pos) env) Q E s := by
  obtain ⟨h1, h2, h3⟩ := constsOf_cps (prog := prog) (w := w) (env := env) (pos := pos) hc
  rw [arm_eval_Dict, zip_pairTrees keys values env pos h2 h3]
  exact wpAny_bind (wpAny_standAt (display h1 hne hnd hsz hlow hQ))
end
end Mine

/-! H4 -/
namespace Mine
set_option linter.unusedVariables false

abbrev Facts := List (Str × (Heap → Value → Prop))

/-- stays where the code's list and the globals alone are written -/
def StableAt (Pl : Addr) (S : Heap → Value → Prop) : Prop := ∀ h h' v, (∀ b o, b ≠ Pl → b ≠ mainGlobals → h.get? b = some o → h'.get? b = some o) → S h v → S h' v

structure TIv (h₀ : Heap) (mg₀ : Str → Option Value) (c Pl : Addr) (G : Facts) (ps : List (Nat × Nat)) (mg : Str → Option Value) (l : List (Pos × Addr)) (h : Heap) : Prop where
  main : h.Main mg c Pl (triples l).toArray
  places : l.map (fun q => (q.1.line, q.1.col)) = ps
  facts : ∀ n S, G.lookup n = some S → ∃ v, mg n = some v ∧ S h v
  others : ∀ x, (∀ p ∈ G, p.1 ≠ x) → mg x = mg₀ x
  stab : ∀ p ∈ G, StableAt Pl p.2
  keep : ∀ b o, b ≠ Pl → b ≠ mainGlobals → h₀.get? b = some o → h.get? b = some o

theorem TIv.step {h₀ h h' : Heap} {mg₀ mg : Str → Option Value} {c Pl : Addr} {G : Facts} {ps ps' : List (Nat × Nat)} {l l' : List (Pos × Addr)} {n : Str} {v : Value} {S : Heap → Value → Prop} (I : TIv h₀ mg₀ c Pl G ps mg l h)
    (hm : h'.Main (fun x => if x = n then some v else mg x) c Pl (triples l').toArray) (hp : l'.map (fun q => (q.1.line, q.1.col)) = ps')
    (hS : S h' v) (hs : StableAt Pl S) (k : ∀ b o, b ≠ Pl → b ≠ mainGlobals → h.get? b = some o → h'.get? b = some o) :
    TIv h₀ mg₀ c Pl ((n, S) :: G) ps' (fun x => if x = n then some v else mg x) l' h' where
  main := hm
  places := hp
  facts := fun m T e => by
    rw [List.lookup_cons] at e
    cases hb : m == n with
    | true =>
      rw [hb] at e; cases e
      rw [beq_iff_eq] at hb
      exact ⟨v, if_pos hb, hS⟩
    | false =>
      rw [hb] at e
      obtain ⟨u, hu, hT⟩ := I.facts m T e
      have hne : m ≠ n := fun e => by subst e; simp at hb
      exact ⟨u, (if_neg hne).trans hu, I.stab (m, T) (mem_of_lookup e) _ _ _ k hT⟩
  others := fun x hx => by
    have h1 : x ≠ n := fun e => hx (n, S) List.mem_cons_self e.symm
    exact (if_neg h1).trans (I.others x fun p hp => hx p (List.mem_cons_of_mem _ hp))
  stab := fun p hp => by
    rcases List.mem_cons.mp hp with rfl | hp
    · exact hs
    · exact I.stab p hp
  keep := fun b o h1 h2 e => k b o h1 h2 (I.keep b o h1 h2 e)

theorem main_stay {h h' : Heap} {mg : Str → Option Value} {c Pl : Addr} {ps : Array Value} (m : h.Main mg c Pl ps) (k : Stay h h') : h'.Main mg c Pl ps :=
  ⟨m.g.keeps k, m.code.keeps k, m.low, let ⟨bm, o, h1, h2, h3, h4, h5, r⟩ := m.bmod; ⟨bm, o, h1, h2, h3, h4, k _ _ h5, r⟩⟩

section
variable {prog : Program} {w : World} {A : Around} {E : Value → Shared → Prop} {h₀ : Heap} {mg₀ mg : Str → Option Value} {c Pl F : Addr} {G : Facts} {ps : List (Nat × Nat)} {l : List (Pos × Addr)} {s : Shared}

/-- a plain name laid at the top -/
theorem top_assign {n : Str} {np pos : Pos} {e : Expr} {S : Heap → Value → Prop} {Q : Flow → Shared → Prop} (I : TIv h₀ mg₀ c Pl G ps mg l s.heap) (hmod : prog.main.scope.kind = .module) (hloc : prog.main.scope.names.lookup n = some .local) (hnb : n ≠ "__builtins__")
    (hst : StableAt Pl S) (hsw : swapsWith e (some (.Name n np)) pos.line (mainEnv prog c F) = pure false)
    (he : ∀ Q' : Value → Shared → Prop, (∀ v h' tk, Stay s.heap h' → S h' v → Q' v { s with heap := h', toks := tk }) → wpAny (model prog w) A (eval e (mainEnv prog c F)) Q' E s)
    (hQ : ∀ v h' tk, TIv h₀ mg₀ c Pl ((n, S) :: G) ps (fun x => if x = n then some v else mg x) l h' → Q .next { s with heap := h', toks := tk }) :
    wpAny (model prog w) A (exec (.Assign [.Name n np] e pos) (mainEnv prog c F)) Q E s := by
  refine wpAny_Assign_Name (he _ fun v h₁ tk₁ k₁ hS₁ => ?_) hsw
  have hm₁ := main_stay I.main k₁
  refine wpAny_storeName_local (env := mainEnv prog c F) hloc hm₁.g (fun h' hg' hs' => ?_) (by show (prog.main.scope.kind == .class || (prog.main.scope.kind == .module && mainGlobals != mainGlobals)) = false; rw [hmod]; rfl)
  obtain ⟨bm, o, hbm, hne0, hneG, hneP, hbo, hrest⟩ := hm₁.bmod
  have kk : ∀ b o, b ≠ Pl → b ≠ mainGlobals → h₁.get? b = some o → h'.get? b = some o := fun b o h1 h2 e => (hs'.2 b h2).trans e
  refine hQ v h' _ (I.step ⟨hg', hm₁.code.sameBut hs' (Nat.ne_of_gt hm₁.low.1) (Nat.ne_of_gt hm₁.low.2), hm₁.low,
      ⟨bm, o, (if_neg (Ne.symm hnb)).trans hbm, hne0, hneG, hneP, (hs'.2 _ hneG).trans hbo, hrest⟩⟩ I.places (hst _ _ _ kk hS₁) hst fun b o h1 h2 e => kk b o h1 h2 (k₁ _ _ e))

def SStr (x : Str) : Heap → Value → Prop := fun _ v => ∃ t, v = .str x t
theorem sstr_stable {Pl : Addr} {x : Str} : StableAt Pl (SStr x) := fun _ _ _ _ h => h

def SFn (Pl : Addr) (d : DefRec) : Heap → Value → Prop := fun h v => ∃ a o pm cd doc, v = .ref a ∧ h.get? a = some o ∧ o.data = .func (d.data pm (.ref cd) doc) ∧ h.CodeRec (.ref cd) d.name ∧ Pl < a ∧ Pl < cd
theorem sfn_stable {Pl : Addr} {d : DefRec} (hlow : mainGlobals < Pl) : StableAt Pl (SFn Pl d) := fun h h' v k ⟨a, o, pm, cd, doc, e, ho, hd, hc, h1, h2⟩ =>
  ⟨a, o, pm, cd, doc, e, k _ _ (Nat.ne_of_gt h1) (Nat.ne_of_gt (Nat.lt_trans hlow h1)) ho, hd, hc.at fun o e => k _ _ (Nat.ne_of_gt h2) (Nat.ne_of_gt (Nat.lt_trans hlow h2)) e, h1, h2⟩

def SDict (prog : Program) (w : World) (Pl : Addr) (cs : List (Int × Str)) : Heap → Value → Prop := fun h v => ∃ a kvs, v = .ref a ∧ h.DictOf (intKind prog w) a kvs ∧ Sts kvs cs ∧ Pl < a
theorem sdict_stable {Pl : Addr} {cs : List (Int × Str)} (hlow : mainGlobals < Pl) : StableAt Pl (SDict prog w Pl cs) := fun h h' v k ⟨a, kvs, e, hd, hs, h1⟩ =>
  ⟨a, kvs, e, hd.at fun o e => k _ _ (Nat.ne_of_gt h1) (Nat.ne_of_gt (Nat.lt_trans hlow h1)) e, hs, h1⟩

def SSet (prog : Program) (w : World) (Pl : Addr) (f : Int → Bool) : Heap → Value → Prop := fun h v => ∃ a n, v = .ref a ∧ h.SetOf (intKind prog w) a f n ∧ Pl < a
theorem sset_stable {Pl : Addr} {f : Int → Bool} (hlow : mainGlobals < Pl) : StableAt Pl (SSet prog w Pl f) := fun h h' v k ⟨a, n, e, ⟨o, es, ep, t, ho, r⟩, h1⟩ =>
  ⟨a, n, e, ⟨o, es, ep, t, k _ _ (Nat.ne_of_gt h1) (Nat.ne_of_gt (Nat.lt_trans hlow h1)) ho, r⟩, h1⟩

theorem top_def {st : Stmt} {d : DefRec} {Q : Flow → Shared → Prop} (I : TIv h₀ mg₀ c Pl G ps mg l s.heap) (hmod : prog.main.scope.kind = .module) (hst : st = d.stmt) (hd : d.Plain prog) (hps : (ps.all fun q => !(q.1 == d.pos.line && q.2 == d.pos.col)) = true)
    (hQ : ∀ v c' h' tk, TIv h₀ mg₀ c Pl ((d.name, SFn Pl d) :: G) (ps ++ [(d.pos.line, d.pos.col)]) (fun x => if x = d.name then some v else mg x) (l ++ [(d.pos, c')]) h' → Q .next { s with heap := h', toks := tk }) :
    wpAny (model prog w) A (exec st (mainEnv prog c F)) Q E s := by
  subst hst
  have hPl : Pl < s.heap.objs.size := I.main.code.lt.2
  refine wpAny_def hd hmod I.main (by
    rw [List.toList_toArray]
    refine codeAmong_triples _ _ fun q hq e => ?_
    have hq' : (q.1.line, q.1.col) ∈ ps := by rw [← I.places]; exact List.mem_map.mpr ⟨q, hq, rfl⟩
    have := List.all_eq_true.mp hps _ hq'
    simp [e.1, e.2] at this) fun a c' doc h₁ tk₁ ha hm₁ hf hc keep => ?_
  have hm₁' : h₁.Main (fun x => if x = d.name then some (.ref a) else mg x) c Pl (triples (l ++ [(d.pos, c')])).toArray := by
    rw [triples_append]; simpa using hm₁
  refine hQ (.ref a) c' h₁ tk₁ (I.step hm₁' (by rw [List.map_append, I.places]; rfl) ⟨a, _, _, c', doc, rfl, hf, rfl, hc.2, Nat.lt_of_lt_of_le hPl ha, Nat.lt_of_lt_of_le hPl hc.1⟩ (sfn_stable I.main.low.2) keep)

theorem name_top {x : Str} {pos : Pos} {f : Value} {mb : Str → Option Value} {Q : Value → Shared → Prop} (hm : s.heap.Main mg c Pl (triples l).toArray) (hmod : prog.main.scope.kind = .module) (hB : s.heap.Ns builtinsNs mb) (hblt : ∀ x : Str, x ≠ "__name__" → mb x = bootBuiltins x)
    (hx : mg x = none) (hb : bootBuiltins x = some f) (hn : x ≠ "__name__") (h : Q f s) (hd : (x == ("__debug__" : Str)) = false := by decide) :
    wpAny (model prog w) A (eval (.Name x pos) (mainEnv prog c F)) Q E s :=
  Calls.Name_module hmod rfl (Calls.loadGlobal_builtin (env := mainEnv prog c F) hm.g hx hB ((hblt x hn).trans hb) h) hd
end
end Mine

/-! H5 -/
namespace Mine
set_option linter.unusedVariables false
section
variable {prog : Program} {w : World} {A : Around} {E : Value → Shared → Prop} {s : Shared}

theorem repL_of_get {X : Addr → Prop} {h : Heap} : ∀ {ps : List PV} {vs : List Value}, ps.length = vs.length → (∀ (i : Nat) (p : PV) (v : Value), ps[i]? = some p → vs[i]? = some v → Rep X h p v) → RepL X h ps vs
  | [], [], _, _ => .nil
  | p :: ps, v :: vs, hl, H => .cons (H 0 p v rfl rfl) (repL_of_get (by simpa using hl) fun i q u h1 h2 => H (i + 1) q u h1 h2)
  | [], _ :: _, hl, _ => by simp at hl
  | _ :: _, [], hl, _ => by simp at hl

theorem list_of_range {X : Addr → Prop} {r : Addr} {a b : Int} {t u v : Tok} {Q : Value → Shared → Prop} (hX : ∀ a, X a → ∃ o, s.heap.get? a = some o) (hA : A.handled = none) (hr : IsRange s.heap r a b 1 t u v) (n : Nat) (hn : Builtin.Range.rangeSize a b 1 = n)
    (hs : Builtin.Range.small a b 1 = true) (hlen : n ≤ 2 ^ 24)
    (hQ : ∀ v s', Keeps s s' → Rep X s'.heap (.list (rng a n)) v → Q v s') : wpAny (model prog w) A (call (.type "list") [.ref r]) Q E s := by
  refine call_list_range hA hr hs hn hlen fun h' tk acc c' hk ho hit => hQ _ _ ⟨h', tk, rfl, hk⟩ ?_
  refine rep_list (vs := acc.toList) ⟨c', ho⟩ (xnew hX) (repL_of_get (by rw [rng_len, Array.length_toList, hit.1]) fun i p v hp hv => ?_)
  obtain ⟨t, rfl⟩ := hit.2 i v (by simpa using hv)
  have hi : i < n := by
    have := (List.getElem?_eq_some_iff.mp hp).1
    rwa [rng_len] at this
  unfold rng at hp
  rw [List.getElem?_map, List.getElem?_range hi] at hp
  cases hp
  rw [Int.mul_one]
  exact rep_int

inductive CIs : List Expr → List Int → Prop
  | nil : CIs [] []
  | cons {k : Int} {i : Nat} {p : Pos} {es : List Expr} {ks : List Int} : CIs es ks → CIs (.Constant (.int k) i p :: es) (k :: ks)

theorem consts_spliced {X : Addr → Prop} {env : Env} {pos : Pos} {es : List Expr} {ks : List Int} (h : CIs es ks) : ∀ {s : Shared} {Q : List Value → Shared → Prop},
    (∀ vs s', Keeps s s' → RepL X s'.heap (ks.map .int) vs → Q vs s') → wpAny (model prog w) A (spliced (backTo pos (starEach es env))) Q E s := by
  induction h with
  | nil => intro s Q hQ; exact args_nil (hQ [] s (krefl s) .nil)
  | cons _ ih => intro s Q hQ; exact args_cons (wpAny_Constant_int (ih fun vs s₂ k₂ r₂ => hQ _ s₂ (ktrans (ktok s _) k₂) (.cons rep_int r₂))) rfl

theorem list_of_consts {X : Addr → Prop} {env : Env} {pos : Pos} {es : List Expr} {ks : List Int} {Q : Value → Shared → Prop} (h : CIs es ks) (hX : ∀ a, X a → ∃ o, s.heap.get? a = some o) (hsz : ks.length ≤ sizeLine)
    (hQ : ∀ v s', Keeps s s' → Rep X s'.heap (.list (ks.map .int)) v → Q v s') : wpAny (model prog w) A (eval (.List es pos) env) Q E s :=
  wpAny_List_spliced (consts_spliced h fun vs s₁ k₁ r₁ => ⟨by rw [r₁.length, List.length_map]; exact hsz, hQ _ _ (ktrans k₁ (kpush _ _)) (rep_new_list (fun a ha => let ⟨o, e⟩ := hX a ha; ⟨o, Keepsl k₁ _ _ e⟩) r₁)⟩)

/-- the members of a set made of a list of whole numbers -/
def memb (ks : List Int) : Int → Bool := fun k' => (PyProof.Rows.firstMet (fun i => ks.getD i 0) ks.length).any (· == k')

theorem set_of_list {v : Value} {ks : List Int} {Q : Value → Shared → Prop} (hA : A.handled = none) (r : Rep (fun _ => False) s.heap (.list (ks.map .int)) v) (hb : ks.length + 1 < scanBound)
    (hQ : ∀ h' tk n, h'.SetOf (intKind prog w) s.heap.objs.size (memb ks) n → Stay s.heap h' → Q (.ref s.heap.objs.size) { s with heap := h', toks := tk }) : wpAny (model prog w) A (call (.type "set") [v]) Q E s := by
  obtain ⟨a, vs, rfl, ⟨hl, _⟩, hr⟩ := r.list
  have hn : vs.toArray.size = ks.length := by rw [List.size_toArray, hr.length, List.length_map]
  refine call_set_list hA hl.isList (ns := ks) (by simpa using hr.ints) (by rw [hn]; exact hb) fun h' tk hS hk => ?_
  rw [hn] at hS
  exact hQ h' tk _ hS fun b o e => hk b o (Heap.lt_size e) e

theorem set_expr {h₀ : Heap} {mg₀ mg mb : Str → Option Value} {c Pl F : Addr} {l : List (Pos × Addr)} (hm : s.heap.Main mg c Pl (triples l).toArray) (hmod : prog.main.scope.kind = .module) (hB : s.heap.Ns builtinsNs mb) (hblt : ∀ x : Str, x ≠ "__name__" → mb x = bootBuiltins x)
    (hA : A.handled = none) (h1 : mg "set" = none) (h2 : mg "list" = none) (h3 : mg "range" = none) (b1 : bootBuiltins "set" = some (.type "set")) (b2 : bootBuiltins "list" = some (.type "list")) (b3 : bootBuiltins "range" = some (.type "range"))
    {es : List Expr} {ks : List Int} (hc : CIs es ks) {a b : Int} {n : Nat} (hn : Builtin.Range.rangeSize a b 1 = n) (hs : Builtin.Range.small a b 1 = true) (hlen : n ≤ 2 ^ 24) (hks : ks.length + n + 1 < scanBound) (hks' : ks.length + n ≤ sizeLine)
    {p1 p2 p3 p4 p5 p6 p7 p8 p9 p10 : Pos} {i1 i2 : Nat} {Q : Value → Shared → Prop}
    (hQ : ∀ h' tk d n', h'.SetOf (intKind prog w) d (memb (ks ++ (List.range n).map fun (i : Nat) => a + i)) n' → Stay s.heap h' → (∀ b o, s.heap.get? b = some o → b < d) → Q (.ref d) { s with heap := h', toks := tk }) :
    wpAny (model prog w) A (eval (.Call (.Name "set" p1) [.BinOp (.List es p2) .Add (.Call (.Name "list" p3) [.Call (.Name "range" p4) [.Constant (.int a) i1 p5, .Constant (.int b) i2 p6] [] p7] [] p8) p9] [] p10) (mainEnv prog c F)) Q E s := by
  refine wpAny_Call_NameR (name_top hm hmod hB hblt h1 b1 (by decide) (callWith_typeE (args_cons (wpAny_BinOp (list_of_consts (X := fun _ => False) hc (fun _ h => h.elim) (by omega) fun v s₁ k₁ r₁ => ?_)) rfl) rfl rfl))
  have kk : ∀ {s' : Shared}, Keeps s s' → s'.heap.Main mg c Pl (triples l).toArray ∧ s'.heap.Ns builtinsNs mb := fun k => ⟨main_stay hm (Keepsl k), hB.keeps (Keepsl k)⟩
  refine wpAny_Call_NameR (name_top (kk k₁).1 hmod (kk k₁).2 hblt h2 b2 (by decide) (callWith_typeE (args_cons ?_ rfl) rfl rfl))
  refine wpAny_Call_NameR (name_top (kk k₁).1 hmod (kk k₁).2 hblt h3 b3 (by decide) (callWith_typeE (args_cons (wpAny_Constant_int (args_cons (wpAny_Constant_int (args_nil (call_range_2 ?_))) rfl)) rfl) rfl rfl))
  refine args_nil (list_of_range (X := fun _ => False) (fun _ h => h.elim) hA (IsRange.new _ _ _ _ _ _ _) n hn hs (by omega) fun v₂ s₂ k₂ r₂ => ?_)
  have k12 : Keeps s₁ s₂ := ktrans (ktrans ⟨_, _, rfl, stay_push _ _⟩ (krefl _)) k₂
  refine (bo_lists (l := ks.map .int) (m := rng a n) (by rw [List.length_map, rng_len]; exact hks')).run (fun _ => False) s₂ v v₂ _ E (fun _ h => h.elim) (r₁.stay (Keepsl k12)) r₂ fun v₃ s₃ k₃ r₃ => ?_
  refine args_nil ?_
  have k13 := ktrans (ktrans k₁ k12) k₃
  have e : ks.map PV.int ++ rng a n = (ks ++ (List.range n).map fun (i : Nat) => a + i).map .int := by
    unfold rng
    rw [List.map_append, List.map_map]; rfl
  rw [e] at r₃
  refine set_of_list hA r₃ (by rw [List.length_append, List.length_map, List.length_range]; exact hks) fun h' tk n' hS k₄ => ?_
  obtain ⟨h₅, t₅, rfl, k₅⟩ := k13
  exact hQ h' tk _ n' hS (fun b o e => k₄ b o (k₅ b o e)) fun b o e => Heap.lt_size (k₅ b o e)
end
end Mine

/-! V15 -/
namespace Mine
set_option linter.unusedVariables false
section
variable {prog : Program} {w : World} {τ : TopI} {A : Around} {own : List Str} {env : Env} {ρ : List (Str × PV)} {E : Value → Shared → Prop} {s : Shared}

/-- `list(range(a, b))` -/
theorem ev_list_range {a b : Int} {n : Nat} {i1 i2 : Nat} {p3 p4 p5 p6 p7 p8 : Pos} (hA : A.handled = none) (hk : env.kindOf "list" = some .globalImplicit) (hm : τ.mg "list" = none) (hk' : env.kindOf "range" = some .globalImplicit) (hm' : τ.mg "range" = none)
    (hn : Builtin.Range.rangeSize a b 1 = n) (hs : Builtin.Range.small a b 1 = true) (hlen : n ≤ 2 ^ 24) :
    Ev prog w τ A env ρ (.Call (.Name "list" p3) [.Call (.Name "range" p4) [.Constant (.int a) i1 p5, .Constant (.int b) i2 p6] [] p7] [] p8) (.list (rng a n)) := .mk fun X h₀ own s Q E F hQ => by
  refine wpAny_Call_NameR (name_builtin F hk hm (f := .type "list") (by decide +kernel) (by decide) (callWith_typeE (args_cons ?_ rfl) rfl rfl))
  refine wpAny_Call_NameR (name_builtin F hk' hm' (f := .type "range") (by decide +kernel) (by decide) (callWith_typeE (args_cons (wpAny_Constant_int (args_cons (wpAny_Constant_int (args_nil (call_range_2 ?_))) rfl)) rfl) rfl rfl))
  refine args_nil (list_of_range (X := X) (fun a ha => let ⟨o, e⟩ := F.xs a ha; ⟨o, Heap.get?_push_of_some _ e⟩) hA (IsRange.new _ _ _ _ _ _ _) n hn hs hlen fun v₂ s₂ k₂ r₂ => ?_)
  exact hQ _ _ (ktrans (ktrans ⟨_, _, rfl, stay_push _ _⟩ (krefl _)) k₂) r₂

/-- membership in the text's set -/
theorem ev_in_set {l : Expr} {x : Str} {np pos : Pos} {k : Int} {a : Addr} {f : Int → Bool} (hl : Ev prog w τ A env ρ l (.int k)) (hk : env.kindOf x = some .globalImplicit) (hm : τ.mg x = some (.ref a)) (hS : ∀ h, τ.T h → ∃ n, h.SetOf (intKind prog w) a f n)
    (hmk : behindInMarks .In (.Name x np) = false := by rfl) (hd : (x == ("__debug__" : Str)) = false := by decide) :
    Ev prog w τ A env ρ (.Compare l [.In] [.Name x np] pos) (.bool (f k)) := .mk fun X h₀ own s Q E F hQ =>
  wpAny_Compare1 (hl.run X h₀ own s _ E F fun v s₁ k₁ r₁ => name_global (F.fk k₁) hk hm (by
    obtain ⟨t, rfl⟩ := r₁.int
    obtain ⟨n, hS⟩ := hS _ (F.fk k₁).tt
    exact wpAny_inSet_of (intKind_is prog w k t) rfl hS (hQ _ _ (ktrans k₁ (ktok _ _)) rep_bool)) hd) hmk

/-- what the text's table answers -/
def tabPV (cs : List (Int × Str)) (k : Int) : PV := match cs.lookup k with
  | some x => .str x
  | none => .none
theorem ev_tab_get {e : Expr} {x : Str} {np apos pos : Pos} {k : Int} {a : Addr} {cs : List (Int × Str)} (hl : Ev prog w τ A env ρ e (.int k)) (hk : env.kindOf x = some .globalImplicit) (hm : τ.mg x = some (.ref a)) (hlow : (a == sysModules) = false)
    (hS : ∀ h, τ.T h → ∃ kvs, h.DictOf (intKind prog w) a kvs ∧ Sts kvs cs)
    (hst : starEach [e] env = [(false, eval e env)] := by rfl) (hd : (x == ("__debug__" : Str)) = false := by decide)
    (hab : attributeBase (.Name x np) "get" env (eval (.Name x np) env) = eval (.Name x np) env := by rfl) (hpos : (apos.endLine == pos.line) = true := by rfl)
    (hargs : (((backTo pos (starEach [e] env)).all fun x => !x.fst) && (backToKw pos (keywordEach [] env)).all (fun x => x.fst.isSome) && decide ((([e] : List Expr).length + ([] : List Keyword).length + if ([] : List Keyword).isEmpty = true then 0 else 1) < 30)) = true := by rfl) :
    Ev prog w τ A env ρ (.Call (.Attribute (.Name x np) "get" apos) [e] [] pos) (tabPV cs k) := .mk fun X h₀ own s Q E F hQ => by
  refine wpAny_Call_method hab hargs hpos PySem.F.plainAttrs_dict PySem.F.slot_dict_get PySem.F.type_dict_get (name_global F hk hm ?_ hd)
  obtain ⟨kvs₀, hD₀, _⟩ := hS _ F.tt
  refine ⟨hD₀.typeIs, fun b e => hD₀.mapOf.noDict b e, ?_⟩
  rw [hst]
  refine wpAny_dict_get1 (knd := intKind prog w) hlow (show wpAny (model prog w) A (eval e env) _ E s from hl.run X h₀ own s _ E F fun v s₁ k₁ r₁ => ?_)
  obtain ⟨t, rfl⟩ := r₁.int
  obtain ⟨kvs, hD, hs⟩ := hS _ (F.fk k₁).tt
  refine ⟨k, _, intKind_is prog w k t, hD.mapOf, hQ _ _ (ktrans k₁ (ktok _ _)) ?_⟩
  unfold tabPV
  cases hc : cs.lookup k with
  | none => rw [(hs.at k).1 hc]; exact rep_none
  | some y =>
    obtain ⟨t', e⟩ := (hs.at k).2 y hc
    rw [e]; exact rep_str
end
end Mine

/-! V16 -/
namespace Mine
set_option linter.unusedVariables false

def PV.atom : PV → Bool
  | .list _ => false
  | .tup _ => false
  | _ => true
theorem rep_atom {X Y : Addr → Prop} {h h' : Heap} {p : PV} {v : Value} (ha : p.atom = true) (r : Rep X h p v) : Rep Y h' p v := by
  cases p with
  | int i => unfold Rep at r ⊢; exact r
  | bool i => unfold Rep at r ⊢; exact r
  | str i => unfold Rep at r ⊢; exact r
  | none => unfold Rep at r ⊢; exact r
  | adr _ => unfold Rep at r ⊢; exact r
  | list _ => cases ha
  | tup _ => cases ha
theorem repL_atoms {X Y : Addr → Prop} {h h' : Heap} : ∀ {ps : List PV} {vs : List Value}, ps.all PV.atom = true → RepL X h ps vs → RepL Y h' ps vs
  | [], vs, _, r => by unfold RepL at r ⊢; exact r
  | p :: ps, vs, ha, r => by
    rw [List.all_cons, Bool.and_eq_true] at ha
    unfold RepL at r ⊢
    obtain ⟨v, vs', e, h1, h2⟩ := r
    exact ⟨v, vs', e, rep_atom ha.1 h1, repL_atoms ha.2 h2⟩

section
variable {prog : Program} {w : World} {τ : TopI} {A : Around} {own : List Str} {env : Env} {ρ : List (Str × PV)}

def PostZ (X : Addr → Prop) (τ : TopI) (h₀ : Heap) (own : List Str) (env : Env) (s : Shared) (o : Out) (Q : Flow → Shared → Prop) : Prop :=
  match o with
  | .next ρ' => ∀ s', (∃ h tk, s' = { s with heap := h, toks := tk }) → FI X τ h₀ own env ρ' s'.heap → Q .next s'
  | .ret p => ∀ v s', (∃ h tk, s' = { s with heap := h, toks := tk }) → Stay h₀ s'.heap → Rep X s'.heap p v → Q (.ret v) s'
theorem PostZ.after {X : Addr → Prop} {h₀ : Heap} {s s₁ : Shared} {o : Out} {Q : Flow → Shared → Prop} (k : ∃ h tk, s₁ = { s with heap := h, toks := tk }) (h : PostZ X τ h₀ own env s o Q) : PostZ X τ h₀ own env s₁ o Q := by
  obtain ⟨h1, t1, rfl⟩ := k
  cases o with
  | next ρ' => exact fun s' ⟨h', tk, e⟩ F => h s' ⟨h', tk, e⟩ F
  | ret p => exact fun v s' ⟨h', tk, e⟩ st r => h v s' ⟨h', tk, e⟩ st r
theorem PostZ.post {X : Addr → Prop} {h₀ : Heap} {s : Shared} {o : Out} {Q : Flow → Shared → Prop} (h : PostZ X τ h₀ own env s o Q) : Post X τ h₀ own env s o Q := by
  cases o with
  | next ρ' => exact fun s' k F => h s' k.1 F
  | ret p => exact fun v s' k st r => h v s' k.1 st r

/-- statements of a frame above which nothing old is touched -/
structure ExZ (prog : Program) (w : World) (τ : TopI) (A : Around) (own : List Str) (env : Env) (ρ : List (Str × PV)) (ss : List Stmt) (o : Out) : Prop where
  run : ∀ (X : Addr → Prop) (h₀ : Heap) (s : Shared) (Q : Flow → Shared → Prop) (E : Value → Shared → Prop), (∀ a o, h₀.get? a = some o → X a) → FI X τ h₀ own env ρ s.heap → PostZ X τ h₀ own env s o Q → wpAny (model prog w) A (execs ss env) Q E s
structure ExSZ (prog : Program) (w : World) (τ : TopI) (A : Around) (own : List Str) (env : Env) (ρ : List (Str × PV)) (st : Stmt) (o : Out) : Prop where
  run : ∀ (X : Addr → Prop) (h₀ : Heap) (s : Shared) (Q : Flow → Shared → Prop) (E : Value → Shared → Prop), (∀ a o, h₀.get? a = some o → X a) → FI X τ h₀ own env ρ s.heap → PostZ X τ h₀ own env s o Q → wpAny (model prog w) A (exec st env) Q E s
theorem Ex.z {ss : List Stmt} {o : Out} (h : Ex prog w τ A own env ρ ss o) : ExZ prog w τ A own env ρ ss o := .mk fun X h₀ s Q E _ F hQ => h.run X h₀ s Q E F hQ.post
theorem ExS.z {st : Stmt} {o : Out} (h : ExS prog w τ A own env ρ st o) : ExSZ prog w τ A own env ρ st o := .mk fun X h₀ s Q E _ F hQ => h.run X h₀ s Q E F hQ.post
theorem exz_nil : ExZ prog w τ A own env ρ [] (.next ρ) := ex_nil.z
theorem exz_cons {st : Stmt} {rest : List Stmt} {ρ₁ : List (Str × PV)} {o : Out} (h1 : ExSZ prog w τ A own env ρ st (.next ρ₁)) (h2 : ExZ prog w τ A own env ρ₁ rest o) : ExZ prog w τ A own env ρ (st :: rest) o := .mk fun X h₀ s Q E Z F hQ =>
  wpAny_execs_cons (h1.run X h₀ s _ E Z F fun s₁ k₁ F₁ => h2.run X h₀ s₁ Q E Z F₁ (hQ.after k₁))
theorem exz_ret {st : Stmt} {rest : List Stmt} {p : PV} (h1 : ExSZ prog w τ A own env ρ st (.ret p)) : ExZ prog w τ A own env ρ (st :: rest) (.ret p) := .mk fun X h₀ s Q E Z F hQ =>
  wpAny_execs_cons (h1.run X h₀ s _ E Z F hQ)
theorem exsz_if {test : Expr} {body orelse : List Stmt} {pos : Pos} {b : Bool} {o : Out} (ht : Tr prog w τ A env ρ test b) (hb : b = true → ExZ prog w τ A own env ρ body o) (ho : b = false → ExZ prog w τ A own env ρ orelse o) :
    ExSZ prog w τ A own env ρ (.If test body orelse pos) o := .mk fun X h₀ s Q E Z F hQ =>
  wpAny_If (ht.run X h₀ own s _ E F fun s₁ k₁ => by
    have k : ∃ h tk, s₁ = { s with heap := h, toks := tk } := let ⟨h, tk, e, _⟩ := k₁; ⟨h, tk, e⟩
    cases b with
    | true => exact (hb rfl).run X h₀ s₁ Q E Z (F.fk k₁) (hQ.after k)
    | false => exact (ho rfl).run X h₀ s₁ Q E Z (F.fk k₁) (hQ.after k))
theorem exz_weak {ss : List Stmt} {ρ₁ ρ₂ : List (Str × PV)} (h : ExZ prog w τ A own env ρ ss (.next ρ₁)) (hw : ∀ y q, ρ₂.lookup y = some q → ρ₁.lookup y = some q) : ExZ prog w τ A own env ρ ss (.next ρ₂) :=
  .mk fun X h₀ s Q E Z F hQ => h.run X h₀ s Q E Z F fun s' k F' => hQ s' k (F'.weak hw)

/-- `del x[i]` of a list of atoms, all else in the frame being atoms -/
theorem exsz_del {x : Str} {np sp pos : Pos} {ie : Expr} {i : Int} {k : Nat} {ps : List PV} (hx : ρ.lookup x = some (.list ps)) (hk : env.kindOf x = some .local) (hat : ps.all PV.atom = true)
    (hoth : ∀ y q, ρ.lookup y = some q → y = x ∨ q.atom = true) (hi : Ev prog w τ A env ρ ie (.int i)) (hfit : Builtin.List.listFitsIndex i = true) (hki : seqIndex? i ps.length = some k) (hkl : k < ps.length) (hsz : ps.length ≤ sizeLine)
    (hd : (x == ("__debug__" : Str)) = false := by decide) :
    ExSZ prog w τ A own env ρ (.Delete [.Subscript (.Name x np) ie sp] pos) (.next ((x, .list (ps.eraseIdx k)) :: ρ)) := .mk fun X h₀ s Q E Z F hQ => by
  refine wpAny_Delete (wpAny_deleteEach_cons (wpAny_delete_Subscript ?_))
  obtain ⟨m, n, H⟩ := F.L
  obtain ⟨v, e, r⟩ := H x _ hx hk
  refine wpAny_Name (wpAny_loadName_local F.fn hk n e (hi.run X h₀ own s _ E F fun iv s₁ k₁ r₁ => ?_)) hd
  obtain ⟨t, rfl⟩ := r₁.int
  have F₁ := F.fk k₁
  obtain ⟨a, vs, rfl, ⟨hl, hXa⟩, hr⟩ := (r.stay (Keepsl k₁)).list
  have hlen := hr.length
  refine wpAny_delItem_plain hl hfit (by rw [List.size_toArray, hlen]; exact hki) (fun h' hl' hs' => wpAny_deleteEach_nil ?_) (by rw [List.size_toArray, hlen]; exact hsz)
  have n₁ := n.keeps (Keepsl k₁)
  have haL : env.locals ≠ a := fun h => by
    obtain ⟨o', es, ep, ho', hd', _⟩ := n₁
    obtain ⟨nn, e'⟩ := hl
    rw [h, e'] at ho'; cases ho'; cases hd'
  have k₂ : ∀ b o, b ≠ a → s₁.heap.get? b = some o → h'.get? b = some o := fun b o hb e => sameBut_stay hs' b o hb e
  have notcell : ∀ c u, s₁.heap.IsCell c u → c ≠ a := fun c u ⟨o, ho, hd⟩ hc => by
    subst hc
    obtain ⟨nn, e'⟩ := hl
    rw [e'] at ho; cases ho; cases hd
  have hnew : Rep X h' (.list (ps.eraseIdx k)) (.ref a) := by
    refine rep_list (vs := vs.eraseIdx k) ?_ hXa ?_
    · have : (vs.toArray.eraseIdxIfInBounds k) = (vs.eraseIdx k).toArray := by simp [Array.eraseIdxIfInBounds, hlen, hkl]
      rw [← this]; exact hl'
    · refine repL_of_get (by rw [List.length_eraseIdx, List.length_eraseIdx, hlen]) fun j p u hp hu => ?_
      rw [List.getElem?_eraseIdx] at hp hu
      have go : ∀ j' : Nat, ps[j']? = some p → vs[j']? = some u → Rep X h' p u := fun j' h1 h2 => by
        obtain ⟨u', h3, h4⟩ := hr.get h1
        rw [h2] at h3; cases h3
        exact rep_atom (List.all_eq_true.mp hat p (List.mem_of_getElem? h1)) h4
      split at hp
      · rename_i hj; rw [if_pos hj] at hu; exact go j hp hu
      · rename_i hj; rw [if_neg hj] at hu; exact go (j + 1) hp hu
  have kS : ∃ h tk, ({ s₁ with heap := h' } : Shared) = { s with heap := h, toks := tk } := by
    obtain ⟨h1, t1, rfl, _⟩ := k₁
    exact ⟨h', t1, rfl⟩
  refine hQ _ kS ⟨F₁.t, fun b hb => ?_, fun b o eb => k₂ b o (fun h => hXa (h ▸ Z _ _ eb)) (F₁.keep b o eb), F₁.fresh, F₁.freshC, F₁.glob, F₁.blt, F₁.fn, ⟨m, n₁.sameBut hs' haL, fun y q hy hky => ?_⟩, fun y q hy hky => ?_, fun y hy => ?_, F₁.inj⟩
  · obtain ⟨o, e⟩ := F₁.xs b hb
    exact ⟨o, k₂ b o (fun h => hXa (h ▸ hb)) e⟩
  · rw [List.lookup_cons] at hy
    cases hyx : y == x with
    | true =>
      rw [hyx] at hy; cases hy
      rw [beq_iff_eq] at hyx; subst hyx
      exact ⟨_, e, hnew⟩
    | false =>
      rw [hyx] at hy
      obtain ⟨u, hu, hru⟩ := H y q hy hky
      refine ⟨u, hu, rep_atom ((hoth y q hy).resolve_left fun h => by subst h; simp at hyx) hru⟩
  · rw [List.lookup_cons] at hy
    cases hyx : y == x with
    | true => rw [beq_iff_eq] at hyx; subst hyx; rw [hk] at hky; rcases hky with h | h <;> cases h
    | false =>
      rw [hyx] at hy
      obtain ⟨c, u, e1, hc, hru⟩ := F₁.C y q hy hky
      refine ⟨c, u, e1, hc.sameBut hs' (notcell c _ hc), rep_atom ((hoth y q hy).resolve_left fun h => by subst h; simp at hyx) hru⟩
  · obtain ⟨e1, c, u, hc, hcc⟩ := F₁.cs y hy
    exact ⟨e1, c, u, hc, hcc.sameBut hs' (notcell c _ hcc)⟩

/-- calling a def whose arguments are atoms -/
theorem ca_defZ {k : Nat} {a : Addr} {name : Str} {params : Arguments} {body : List Stmt} {scope : Scope} {ps : List PV} {r : PV} (hR : Room (k + 1) A) (hf : FnIs τ a name params body scope)
    (names : List Str) (hlen : names.length = ps.length) (hat : ps.all PV.atom = true)
    (hbind : ∀ (pm cd doc : Value) (vs : List Value), vs.length = names.length → bindArgs { name := name, qualname := name, params := params, body := .stmts body, scope := scope, globals := mainGlobals, closure := [], defaults := .none, kwdefaults := .none, doc := doc, pyModule := pm, code := cd, builtins := builtinsNs } ⟨vs, []⟩ = pure (names.zip vs))
    (hnd : names.Nodup) (hnames : ∀ x ∈ names, scope.names.lookup x = some .local ∨ scope.names.lookup x = some .cell) (hu : uniq scope = true)
    (hbody : ∀ (A' : Around) L cd cells, Room k A' → ExZ prog w τ A' (ownOf scope) (fenv name scope a L cd cells) (names.zip ps) body (.ret r))
    (hk : scope.kind = .function := by rfl) (hco : scope.isCoroutine = false := by rfl) (hgen : scope.isGenerator = false := by rfl) : Ca prog w τ A (.ref a) ps r := .mk fun X s vs Q E T hX hr hQ => by
  obtain ⟨o, pm, cd, doc, ho, hd, hcd⟩ := hf _ T
  refine wpAny_call (codeAny_call_function (Nat.lt_of_le_of_lt (Nat.le_add_right _ _) hR.depth) ho hd hco hgen rfl hcd ?_)
  have hvl : vs.length = names.length := by rw [hr.length, hlen]
  rw [hbind pm cd doc vs hvl]
  have hmem : ∀ x ∈ names.zip vs, x.1 ∈ names := fun x hx => (List.of_mem_zip (a := x.1) (b := x.2) hx).1
  have hmap : (names.zip vs).map (·.1) = names := List.map_fst_zip (by rw [hvl]; exact Nat.le_refl _)
  refine wpAny_pure (wpAny_newFunctionEnv_cells hk (fun x hx => ?_) fun env henv s' hs' => ?_)
  · rcases hnames x.1 (hmem x hx) with h | h
    · exact .inl h
    · right
      obtain ⟨c, e⟩ := cells_has scope.names (s.heap.objs.size + 1) (mem_of_lookup h)
      exact ⟨h, by rw [e]; rfl⟩
  · have henv' : env = fenv name scope a s.heap.objs.size cd (cellsFrom (s.heap.objs.size + 1) scope.names []) := henv
    clear henv
    subst henv'
    obtain ⟨hin, hcell, hap, habove⟩ := hs'
    obtain ⟨⟨h₁, tk, rfl⟩, hns, hkeep, _⟩ := hin
    refine ⟨(τ.lim _ T).at fun o e => hkeep _ o e, ?_⟩
    have hrz : RepL (fun a => X a ∨ ∃ o, s.heap.get? a = some o) h₁ ps vs := repL_atoms hat hr
    refine codeAny_func ((hbody _ s.heap.objs.size cd _ hR.deeper).run (fun a => X a ∨ ∃ o, s.heap.get? a = some o) s.heap _ _ _ (fun a o e => .inr ⟨o, e⟩) ?_ fun v s₂ k₂ st hv => hQ v s₂ ?_ (hv.less (fun a h => .inl h) _ _))
    · have ksz : ∀ c, s.heap.objs.size ≤ c → s.heap.get? c = none := fun c hc => get_none hc
      refine ⟨T, fun a ha => ?_, hkeep, ksz _ (Nat.le_refl _), fun x c hx hc => ksz c (Nat.le_of_lt (habove x c (mem_of_lookup hc))), rfl, rfl, hk, ⟨_, hns, fun x p hx hkx => ?_⟩, fun x p hx hkx => ?_, fun x hx => ?_, fun x y c hx hy => name_of_addr hap (mem_of_lookup hx) (mem_of_lookup hy)⟩
      · rcases ha with ha | ⟨o, e⟩
        · obtain ⟨o, e⟩ := hX a ha; exact ⟨o, hkeep _ _ e⟩
        · exact ⟨o, hkeep _ _ e⟩
      · obtain ⟨v, hv, hrv⟩ := hrz.zip hx
        exact ⟨v, bindL_at _ _ _ (by rw [hmap]; exact hnd) hv hkx, hrv⟩
      · obtain ⟨v, hv, hrv⟩ := hrz.zip hx
        have hkc : (fenv name scope a s.heap.objs.size cd (cellsFrom (s.heap.objs.size + 1) scope.names [])).kindOf x = some .cell := by
          rcases hnames x (hmem _ hv) with h | h
          · have h' : (fenv name scope a s.heap.objs.size cd (cellsFrom (s.heap.objs.size + 1) scope.names [])).kindOf x = some .local := h
            rw [h'] at hkx; rcases hkx with h | h <;> cases h
          · exact h
        obtain ⟨c, e⟩ := cells_has scope.names (s.heap.objs.size + 1) (mem_of_lookup hkc)
        refine ⟨c, v, e, ?_, hrv⟩
        have := hcell x c e
        rwa [bindC_at _ _ _ (by rw [hmap]; exact hnd) hv hkc] at this
      · have hmem := ownOf_mem.mp hx
        obtain ⟨c, e⟩ := cells_has scope.names (s.heap.objs.size + 1) hmem
        exact ⟨uniq_at hu hmem, c, _, e, hcell x c e⟩
    · obtain ⟨h₂, t₂, rfl⟩ := k₂
      exact ⟨h₂, t₂, rfl, st⟩
end
end Mine

/-! V17 -/
namespace Mine
set_option linter.unusedVariables false

def find4 (x y : Str) (i j : Int) : Int := match Builtin.Str.occurrences x y (fromIndex x.length i) (min (fromIndex x.length j) x.length) 1 with | k :: _ => (k : Int) | [] => -1
theorem gives_find4 (x y : Str) (i j : Int) (t u v z : Tok) : Gives (Builtin.«str.find» ⟨[.str x t, .str y u, .int i v, .int j z], []⟩) (.int (find4 x y i j)) := by
  show Gives (match Builtin.Str.occurrences x y (fromIndex x.length i) (min (fromIndex x.length j) x.length) 1 with | k :: _ => retInt k | [] => (do rule "str.find.not-found"; retInt (-1))) _
  unfold find4
  cases Builtin.Str.occurrences x y (fromIndex x.length i) (min (fromIndex x.length j) x.length) 1 with
  | nil => exact .rule (.of_eq rfl)
  | cons k _ => exact .of_eq rfl

section
variable {prog : Program} {w : World} {τ : TopI} {A : Around} {own : List Str} {env : Env} {ρ : List (Str × PV)} {E : Value → Shared → Prop} {s : Shared}

theorem ca_find4 {x y : Str} {i j : Int} : Ca prog w τ A (.builtin "str.find") [.str x, .str y, .int i, .int j] (.int (find4 x y i j)) := .mk fun X s vs Q E T hX r hQ => by
  unfold RepL at r
  obtain ⟨a, vs, rfl, ra, r⟩ := r
  unfold RepL at r
  obtain ⟨b, vs, rfl, rb, r⟩ := r
  unfold RepL at r
  obtain ⟨c, vs, rfl, rc, r⟩ := r
  unfold RepL at r
  obtain ⟨d, vs, rfl, rd, r⟩ := r
  unfold RepL at r; subst r
  obtain ⟨t, rfl⟩ := ra.str
  obtain ⟨u, rfl⟩ := rb.str
  obtain ⟨v, rfl⟩ := rc.int
  obtain ⟨z, rfl⟩ := rd.int
  exact call_gives PySem.F.slot_str_find (typeIs_str _ _ _) PySem.F.entry_str_find (PySem.F.args_str_find_4 _ _ _ _) (gives_find4 x y i j t u v z) (hQ _ _ (ktok s _) rep_int)

theorem ca_lower {x : Str} (hx : x.length ≤ 5592405) : Ca prog w τ A (.builtin "str.lower") [.str x] (.str (Txt.lower x)) := ca1 fun X s a Q E T hX r hQ => by
  obtain ⟨t, rfl⟩ := r.str
  exact SC.lower (fit_lower hx) (hQ _ _ (ktok s _) rep_str)

theorem strs_repL {X : Addr → Prop} {h : Heap} : ∀ {l : List (Str × Tok)}, RepL X h ((l.map (·.1)).map .str) (strValues l)
  | [] => .nil
  | (x, t) :: l => .cons rep_str strs_repL

theorem rep_strs_new {X : Addr → Prop} {h : Heap} {xs : List Str} {l : List (Str × Tok)} (hX : ∀ a, X a → ∃ o, h.get? a = some o) (e : l.map (·.1) = xs) : Rep X (h.push { cls := .type "list", data := .seq (strValues l).toArray }) (.list (xs.map .str)) (.ref h.objs.size) := by
  subst e
  exact rep_new_list hX strs_repL

theorem ca_split {x y : Str} (hy : (y.length == 0) = false) (hsz : x.length ≤ sizeLine) (hsz2 : (Builtin.Str.partsBetween x (Builtin.Str.occurrences x y 0 x.length (x.length + 1)) y.length).length ≤ sizeLine) :
    Ca prog w τ A (.builtin "str.split") [.str x, .str y] (.list ((Txt.split x y).map .str)) := ca2 fun X s a b Q E T hX r r' hQ => by
  obtain ⟨t, rfl⟩ := r.str
  obtain ⟨u, rfl⟩ := r'.str
  cases h1 : (decide (x.length < y.length) || decide (Builtin.Str.strKind x < Builtin.Str.strKind y))
  · cases hf : (Builtin.Str.occurrences x y 0 x.length (x.length + 1)).isEmpty
    · refine call_meets PySem.F.slot_str_split (typeIs_str _ _ _) PySem.F.entry_str_split (PySem.F.args_str_split_2 _ _) (meets_str_split_sep x y t u h1 hy hf hsz hsz2) ?_
      show wants Q E _ { s with toks := _, heap := s.heap.push { cls := .type "list", data := .seq (strsFrom s.toks (Builtin.Str.partsBetween x (Builtin.Str.occurrences x y 0 x.length (x.length + 1)) y.length)).toArray } }
      rw [strsFrom_eq]
      exact hQ _ _ ⟨_, _, rfl, stay_push _ _⟩ (rep_strs_new hX ((numbered_texts _ _).trans ((if_neg (ne_true_of_eq_false h1)).trans (if_neg (ne_true_of_eq_false hf))).symm))
    · exact call_meets PySem.F.slot_str_split (typeIs_str _ _ _) PySem.F.entry_str_split (PySem.F.args_str_split_2 _ _) (meets_str_split_not_found x y t u h1 hy hf)
        (hQ _ _ ⟨_, s.toks, rfl, stay_push _ _⟩ (rep_strs_new (l := [(x, t)]) hX ((if_neg (ne_true_of_eq_false h1)).trans (if_pos hf)).symm))
  · exact call_meets PySem.F.slot_str_split (typeIs_str _ _ _) PySem.F.entry_str_split (PySem.F.args_str_split_2 _ _) (meets_str_split_cannot_occur x y t u h1)
      (hQ _ _ ⟨_, s.toks, rfl, stay_push _ _⟩ (rep_strs_new (l := [(x, t)]) hX (if_pos h1).symm))

theorem co_isnot_none {p : PV} {b : Bool} (hp : p.atom = true) (hb : b = match p with | .none => false | _ => true) : Co prog w A .IsNot p .none (.bool b) := .mk fun X s a c Q E hX ra rb hQ => by
  have hc : c = .none := by unfold Rep at rb; exact rb
  subst hc
  refine isNot_none ?_
  subst hb
  cases p with
  | int i => obtain ⟨t, rfl⟩ := ra.int; exact hQ _ _ (krefl s) rep_bool
  | bool i => cases ra.bool; exact hQ _ _ (krefl s) rep_bool
  | str i => obtain ⟨t, rfl⟩ := ra.str; exact hQ _ _ (krefl s) rep_bool
  | none => (have : a = .none := by unfold Rep at ra; exact ra); subst this; exact hQ _ _ (krefl s) rep_bool
  | adr i => (have : a = .ref i := by unfold Rep at ra; exact ra); subst this; exact hQ _ _ (krefl s) rep_bool
  | list _ => cases hp
  | tup _ => cases hp

/-- the iterator's next -/
theorem next_list {it l : Addr} {i : Nat} {items : Array Value} {x : Value} {E : Value → Shared → Prop} {s : Shared} {Q : Value → Shared → Prop} (hit : s.heap.IsListIter it l i) (hl : s.heap.IsList l items) (hx : items[i]? = some x)
    (hQ : ∀ h', h'.IsListIter it l (i + 1) → Heap.SameBut it s.heap h' → Q x { s with heap := h' }) : wpAny (model prog w) A (call (.builtin "next") [.ref it]) Q E s := by
  obtain ⟨o, ho, hc, hd⟩ := id hit
  obtain ⟨ol, hol, _, nl, hdl⟩ := hl
  refine Calls.call_function_entry (by decide +kernel) (by decide +kernel) kdk_entry_next (kdk_args_next _) ?_
  unfold Builtin.«next»
  refine wpAny_bind (m := someArgs "next" 1 2 _) (wpAny_of_eq (a := [Value.ref it]) (by first | rfl | kernel_rfl!) ?_)
  dsimp only
  refine wpAny_bind (wpAny_specialOf (name := Str.ofString "__next__") hit.typeIs slot_listiter_next.lookup ?_)
  refine wpAny_ite_split (fun hab => absurd hab (by decide)) (fun _ => ?_)
  refine wpAny_bind (wpAny_callSpecial?_slot (name := Str.ofString "__next__") hit.typeIs slot_listiter_next
    (wpAny_call_entry slot_listiter_next hit.typeIs entry_listiter_next ?_ (args_listiter_next _)))
  show wpAny _ _ (field (.ref it) 0 >>= _) _ _ s
  refine wpAny_bind (wpAny_field ho hd (x := .ref l) rfl ?_)
  show wpAny _ _ (if (Value.ref l == Value.none) = true then _ else _) _ _ s
  rw [if_neg (show ¬ ((Value.ref l == Value.none) = true) from Bool.false_ne_true)]
  show wpAny _ _ (field (.ref it) 1 >>= _) _ _ s
  refine wpAny_bind (wpAny_field ho hd (x := .int i 0) rfl ?_)
  show wpAny _ _ (seqItems? (.ref l) >>= _) _ _ s
  refine wpAny_bind (wpAny_seqItems hol hdl ?_)
  simp only [Int.toNat_natCast, hx]
  refine wpAny_bind (wpAny_setField ho hd (by simp) (wpAny_pure ⟨x, rfl, wpAny_pure ⟨_, rfl, hQ _ ?_ (Heap.SameBut.update ..)⟩⟩))
  exact ⟨_, Heap.get?_update_self _ ho (Obj.isFreed_of_fields (Obj.data_mapFields hd _)), (Obj.cls_mapFields ..).trans hc, by
    rw [Obj.data_mapFields hd]; simp [rawInt]⟩

/-- `iter` of a list -/
theorem iter_list {l : Addr} {items : Array Value} {E : Value → Shared → Prop} {s : Shared} {Q : Value → Shared → Prop} (hl : s.heap.IsList l items)
    (hQ : ∀ h', h'.IsListIter s.heap.objs.size l 0 → Stay s.heap h' → Q (.ref s.heap.objs.size) { s with heap := h' }) : wpAny (model prog w) A (call (.builtin "iter") [.ref l]) Q E s := by
  refine Calls.call_function_entry (by decide +kernel) (by decide +kernel) kdk_entry_iter (kdk_args_iter _) ?_
  unfold Builtin.«iter»
  refine wpAny_bind (m := someArgs "iter" 1 2 _) (wpAny_of_eq (a := [Value.ref l]) (by first | rfl | kernel_rfl!) ?_)
  show wpAny _ _ (pyIter (.ref l) >>= _) _ _ _
  refine wpAny_bind (wpAny_pyIter_list hl ?_)
  exact wpAny_pure ⟨_, rfl, hQ _ ⟨_, Heap.get?_push_size _ rfl, rfl, rfl⟩ (stay_push _ _)⟩
end
end Mine

/-! V18 -/
namespace Mine
set_option linter.unusedVariables false

theorem rep_adr {X : Addr → Prop} {h : Heap} {a : Addr} : Rep X h (.adr a) (.ref a) := by unfold Rep; rfl
theorem Rep.adr {X : Addr → Prop} {h : Heap} {a : Addr} {v : Value} (r : Rep X h (.adr a) v) : v = .ref a := by unfold Rep at r; exact r

/-- a frame that draws from an iterator of the caller's -/
structure KI (τ : TopI) (env : Env) (I l : Addr) (items : Array Value) (X : Addr → Prop) (hb : Heap) (s₀ : Shared) (ρ : List (Str × PV)) (i : Nat) (s : Shared) : Prop where
  same : ∃ h tk, s = { s₀ with heap := h, toks := tk }
  fi : FI X τ hb [] env ρ s.heap
  it : s.heap.IsListIter I l i
  keep : ∀ b o, b ≠ I → s₀.heap.get? b = some o → s.heap.get? b = some o
  list : s₀.heap.IsList l items
  lI : l ≠ I
  hbI : hb.get? I = none
  XI : ¬ X I
  loc : s₀.heap.get? env.locals = none
  ex : ∃ o, s₀.heap.get? I = some o

inductive OutK where
  | next (ρ : List (Str × PV)) (i : Nat)
  | ret (p : PV) (i : Nat)

section
variable {prog : Program} {w : World} {τ : TopI} {A : Around} {env : Env} {ρ : List (Str × PV)} {ns : List Int} {I : Addr} {i : Nat}

def PostK (τ : TopI) (env : Env) (I l : Addr) (items : Array Value) (X : Addr → Prop) (hb : Heap) (s₀ : Shared) (o : OutK) (Q : Flow → Shared → Prop) : Prop :=
  match o with
  | .next ρ' i' => ∀ s', KI τ env I l items X hb s₀ ρ' i' s' → Q .next s'
  | .ret p i' => ∀ v s' ρ', KI τ env I l items X hb s₀ ρ' i' s' → Rep X s'.heap p v → Q (.ret v) s'

structure ExK (prog : Program) (w : World) (τ : TopI) (A : Around) (env : Env) (I : Addr) (ns : List Int) (ρ : List (Str × PV)) (i : Nat) (ss : List Stmt) (o : OutK) : Prop where
  run : ∀ (l : Addr) (items : Array Value) (X : Addr → Prop) (hb : Heap) (s₀ s : Shared) (Q : Flow → Shared → Prop) (E : Value → Shared → Prop), IntsAre items.toList ns → KI τ env I l items X hb s₀ ρ i s → PostK τ env I l items X hb s₀ o Q → wpAny (model prog w) A (execs ss env) Q E s
structure ExSK (prog : Program) (w : World) (τ : TopI) (A : Around) (env : Env) (I : Addr) (ns : List Int) (ρ : List (Str × PV)) (i : Nat) (st : Stmt) (o : OutK) : Prop where
  run : ∀ (l : Addr) (items : Array Value) (X : Addr → Prop) (hb : Heap) (s₀ s : Shared) (Q : Flow → Shared → Prop) (E : Value → Shared → Prop), IntsAre items.toList ns → KI τ env I l items X hb s₀ ρ i s → PostK τ env I l items X hb s₀ o Q → wpAny (model prog w) A (exec st env) Q E s

theorem KI.ILne {l : Addr} {items : Array Value} {X : Addr → Prop} {hb : Heap} {s₀ s : Shared} (K : KI τ env I l items X hb s₀ ρ i s) : I ≠ env.locals := fun h => by
  obtain ⟨o, e⟩ := K.ex
  rw [h, K.loc] at e; cases e

theorem KI.fk {l : Addr} {items : Array Value} {X : Addr → Prop} {hb : Heap} {s₀ s s' : Shared} {ρ' : List (Str × PV)} (K : KI τ env I l items X hb s₀ ρ i s) (k : FK [] env s s') (F' : FI X τ hb [] env ρ' s'.heap) : KI τ env I l items X hb s₀ ρ' i s' := by
  obtain ⟨⟨h1, t1, rfl⟩, kk⟩ := k
  obtain ⟨h0, t0, e0⟩ := K.same
  subst e0
  exact ⟨⟨h1, t1, rfl⟩, F', K.it.at fun o e => kk I o e K.ILne (fun x hx => by cases hx), fun b o hb' e => kk b o (K.keep b o hb' e) (fun h => by rw [h, K.loc] at e; cases e) (fun x hx => by cases hx), K.list, K.lI, K.hbI, K.XI, K.loc, K.ex⟩

theorem exk_nil : ExK prog w τ A env I ns ρ i [] (.next ρ i) := .mk fun l items X hb s₀ s Q E hi K hQ => wpAny_execs_nil (hQ s K)
theorem exk_cons {st : Stmt} {rest : List Stmt} {ρ₁ : List (Str × PV)} {i₁ : Nat} {o : OutK} (h1 : ExSK prog w τ A env I ns ρ i st (.next ρ₁ i₁)) (h2 : ExK prog w τ A env I ns ρ₁ i₁ rest o) : ExK prog w τ A env I ns ρ i (st :: rest) o := .mk fun l items X hb s₀ s Q E hi K hQ =>
  wpAny_execs_cons (h1.run l items X hb s₀ s _ E hi K fun s₁ K₁ => h2.run l items X hb s₀ s₁ Q E hi K₁ hQ)
theorem exk_ret {st : Stmt} {rest : List Stmt} {p : PV} {i' : Nat} (h1 : ExSK prog w τ A env I ns ρ i st (.ret p i')) : ExK prog w τ A env I ns ρ i (st :: rest) (.ret p i') := .mk fun l items X hb s₀ s Q E hi K hQ =>
  wpAny_execs_cons (h1.run l items X hb s₀ s _ E hi K hQ)
/-- what leaves the iterator alone -/
theorem exsk_plain {st : Stmt} {ρ' : List (Str × PV)} (h : ExS prog w τ A [] env ρ st (.next ρ')) : ExSK prog w τ A env I ns ρ i st (.next ρ' i) := .mk fun l items X hb s₀ s Q E hi K hQ =>
  h.run X hb s Q E K.fi fun s' k F' => hQ s' (K.fk k F')
theorem exsk_return {e : Expr} {pos : Pos} {p : PV} (he : Ev prog w τ A env ρ e p) : ExSK prog w τ A env I ns ρ i (.Return (some e) pos) (.ret p i) := .mk fun l items X hb s₀ s Q E hi K hQ =>
  wpAny_Return_some (he.run X hb [] s _ E K.fi fun v s₁ k₁ r₁ => hQ v s₁ ρ (K.fk (fk_keeps k₁) (K.fi.fk k₁)) r₁)

/-- `x = next(it)` -/
theorem exsk_next {x it : Str} {px np p3 p4 pos : Pos} {n : Int} (hit : Ev prog w τ A env ρ (.Name it p3) (.adr I)) (hn : ns[i]? = some n) (hx : Sto [] env x) (hown : allOwn [] env = true)
    (hk : env.kindOf "next" = some .globalImplicit) (hm : τ.mg "next" = none)
    (hsw : swapsWith (.Call (.Name "next" np) [.Name it p3] [] p4) (some (.Name x px)) pos.line env = pure false := by rfl) :
    ExSK prog w τ A env I ns ρ i (.Assign [.Name x px] (.Call (.Name "next" np) [.Name it p3] [] p4) pos) (.next ((x, .int n) :: ρ) (i + 1)) := .mk fun l items X hb s₀ s Q E hi K hQ => by
  refine wpAny_Assign_Name (wpAny_Call_NameR (name_builtin K.fi hk hm (f := .builtin "next") (by decide +kernel) (by decide) (callWith_builtin1 (args_cons (hit.run X hb [] s _ E K.fi fun v s₁ k₁ r₁ => args_nil ?_) rfl) rfl rfl))) hsw
  have hv := r₁.adr; subst hv
  have K₁ := K.fk (fk_keeps k₁) (K.fi.fk k₁)
  obtain ⟨t, ht⟩ : ∃ t, items[i]? = some (.int n t) := by
    obtain ⟨t, ht⟩ := hi.get i n hn
    exact ⟨t, by rw [← Array.getElem?_toList]; exact ht⟩
  refine next_list K₁.it (K₁.list.at fun o e => K₁.keep l o K₁.lI e) ht fun h' hit' hs' => ?_
  have F₂ : FI X τ hb [] env ρ h' := K₁.fi.wr (Wr := (· = I)) (fun b o hb' e => sameBut_stay hs' b o hb' e) (fun h => K₁.ILne h.symm) (fun z c hc hkz => by
      have := allOwn_at hown hkz
      cases this) (fun b o e h => by subst h; rw [K₁.hbI] at e; cases e) (fun a ha h => K₁.XI (h ▸ ha)) fun b o hw _ e xs nn hd => by
        subst hw
        obtain ⟨o', ho', _, hd'⟩ := K₁.it
        rw [e] at ho'; cases ho'; rw [hd] at hd'; cases hd'
  have K₂ : KI τ env I l items X hb s₀ ρ (i + 1) { s₁ with heap := h' } := by
    obtain ⟨h0, t0, e0⟩ := K₁.same
    subst e0
    exact ⟨⟨_, _, rfl⟩, F₂, hit', fun b o hb' e => sameBut_stay hs' b o hb' (K₁.keep b o hb' e), K₁.list, K₁.lI, K₁.hbI, K₁.XI, K₁.loc, K₁.ex⟩
  exact store_ F₂ hx rep_int fun s₃ k₃ F₃ => hQ s₃ (K₂.fk k₃ F₃)

theorem exsk_while {test : Expr} {body : List Stmt} {pos : Pos} (ρs : Nat → List (Str × PV)) (n : Nat) (h0 : ρs 0 = ρ) (ht : ∀ j, j < n → Tr prog w τ A env (ρs j) test true) (hf : Tr prog w τ A env (ρs n) test false)
    (hbody : ∀ j, j < n → ExK prog w τ A env I ns (ρs j) (i + j) body (.next (ρs (j + 1)) (i + (j + 1)))) : ExSK prog w τ A env I ns ρ i (.While test body [] pos) (.next (ρs n) (i + n)) := .mk fun l items X hb s₀ s Q E hi K hQ => by
  refine wpAny_While (codeAny_whileLoop (fun m s' => ∃ j, j ≤ n ∧ m = n - j ∧ KI τ env I l items X hb s₀ (ρs j) (i + j) s') ?_ n ⟨0, Nat.zero_le _, rfl, h0 ▸ K⟩)
  rintro m s' ⟨j, hj, rfl, K'⟩
  by_cases hlt : j < n
  · refine (ht j hlt).run X hb [] s' _ _ K'.fi fun s₂ k₂ => ?_
    rw [if_pos rfl]
    refine (hbody j hlt).run l items X hb s₀ s₂ _ _ hi (K'.fk (fk_keeps k₂) (K'.fi.fk k₂)) fun s₃ K₃ => ?_
    exact ⟨n - (j + 1), by omega, j + 1, hlt, rfl, K₃⟩
  · obtain rfl : j = n := by omega
    refine hf.run X hb [] s' _ _ K'.fi fun s₂ k₂ => ?_
    rw [if_neg (by decide)]
    exact wpAny_execs_nil (hQ s₂ (K'.fk (fk_keeps k₂) (K'.fi.fk k₂)))
end
end Mine

/-! V19 -/
namespace Mine
set_option linter.unusedVariables false
section
variable {prog : Program} {w : World} {τ : TopI} {A : Around} {own : List Str} {env : Env} {ρ : List (Str × PV)} {ns : List Int} {E : Value → Shared → Prop}

theorem cells_none : ∀ (names : List (Str × NameKind)) (n : Nat), (∀ y ∈ names, y.2 ≠ .cell) → cellsFrom n names [] = []
  | [], _, _ => rfl
  | (x, k) :: r, n, h => by
    unfold cellsFrom
    have hk : k ≠ .cell := h (x, k) List.mem_cons_self
    rw [if_neg (by simpa using hk)]
    exact cells_none r n fun y hy => h y (List.mem_cons_of_mem _ hy)

/-- calling a def that draws from an iterator -/
theorem call_iter {k : Nat} {a I l : Addr} {i i' : Nat} {items : Array Value} {name p : Str} {params : Arguments} {body : List Stmt} {scope : Scope} {r : PV} {X : Addr → Prop} {hb : Heap} {s : Shared} {Q : Value → Shared → Prop} (hR : Room (k + 1) A) (hf : FnIs τ a name params body scope)
    (hbind : ∀ (pm cd doc : Value) (v : Value), bindArgs { name := name, qualname := name, params := params, body := .stmts body, scope := scope, globals := mainGlobals, closure := [], defaults := .none, kwdefaults := .none, doc := doc, pyModule := pm, code := cd, builtins := builtinsNs } ⟨[v], []⟩ = pure [(p, v)])
    (hname : scope.names.lookup p = some .local) (hnc : ∀ y ∈ scope.names, y.2 ≠ .cell)
    (hbody : ∀ (A' : Around) L cd, Room k A' → ExK prog w τ A' (fenv name scope a L cd []) I ns [(p, .adr I)] i body (.ret r i'))
    (hT : τ.T hb) (hkb : Stay hb s.heap) (hX : ∀ a, X a → ∃ o, s.heap.get? a = some o) (hit : s.heap.IsListIter I l i) (hl : s.heap.IsList l items) (hi : IntsAre items.toList ns) (hlI : l ≠ I) (hbI : hb.get? I = none) (hXI : ¬ X I)
    (hQ : ∀ v s', (∃ h tk, s' = { s with heap := h, toks := tk }) → s'.heap.IsListIter I l i' → (∀ b o, b ≠ I → s.heap.get? b = some o → s'.heap.get? b = some o) → Rep X s'.heap r v → Q v s')
    (hk : scope.kind = .function := by rfl) (hco : scope.isCoroutine = false := by rfl) (hgen : scope.isGenerator = false := by rfl) : wpAny (model prog w) A (call (.ref a) [.ref I]) Q E s := by
  have T := τ.stable _ _ hT hkb
  obtain ⟨o, pm, cd, doc, ho, hd, hcd⟩ := hf _ T
  refine wpAny_call (codeAny_call_function (Nat.lt_of_le_of_lt (Nat.le_add_right _ _) hR.depth) ho hd hco hgen rfl hcd ?_)
  rw [hbind pm cd doc (.ref I)]
  refine wpAny_pure (wpAny_newFunctionEnv_cells hk (fun x hx => ?_) fun env henv s' hs' => ?_)
  · simp at hx; subst hx; exact .inl hname
  · have henv' : env = fenv name scope a s.heap.objs.size cd (cellsFrom (s.heap.objs.size + 1) scope.names []) := henv
    clear henv
    rw [cells_none _ _ hnc] at henv'
    subst henv'
    obtain ⟨hin, hcell, hap, habove⟩ := hs'
    obtain ⟨⟨h₁, tk, rfl⟩, hns, hkeep, _⟩ := hin
    have hkeep : Stay s.heap h₁ := hkeep
    refine ⟨(τ.lim _ T).at fun o e => hkeep _ o e, ?_⟩
    have hsz : s.heap.get? s.heap.objs.size = none := get_none (Nat.le_refl _)
    have hIe : ∃ o, s.heap.get? I = some o := by obtain ⟨o, e, _⟩ := hit; exact ⟨o, e⟩
    have K : KI τ (fenv name scope a s.heap.objs.size cd []) I l items X hb s [(p, .adr I)] i { s with heap := h₁, toks := tk } := by
      refine ⟨⟨h₁, tk, rfl⟩, ⟨hT, fun a ha => let ⟨o, e⟩ := hX a ha; ⟨o, hkeep _ _ e⟩, fun b o e => hkeep _ _ (hkb _ _ e), ?_, fun x c _ hc => (by cases hc), rfl, rfl, hk, ⟨_, hns, fun x q hx hkx => ?_⟩, fun x q hx hkx => ?_, fun x hx => (by cases hx), fun x y c hx _ => (by cases hx)⟩, hit.at fun o e => hkeep _ _ e, fun b o _ e => hkeep _ _ e, hl, hlI, hbI, hXI, hsz, hIe⟩
      · show hb.get? s.heap.objs.size = none
        cases e : hb.get? s.heap.objs.size with
        | none => rfl
        | some o => have := hkb _ _ e; rw [hsz] at this; cases this
      · rw [List.lookup_cons] at hx
        cases hxp : x == p with
        | true =>
          rw [hxp] at hx; cases hx
          rw [beq_iff_eq] at hxp; subst hxp
          exact ⟨.ref I, bindL_at _ _ _ (by simp) (by simp) hkx, rep_adr⟩
        | false => rw [hxp] at hx; simp at hx
      · rw [List.lookup_cons] at hx
        cases hxp : x == p with
        | true =>
          rw [beq_iff_eq] at hxp; subst hxp
          have h' : (fenv name scope a s.heap.objs.size cd []).kindOf x = some .local := hname
          rw [h'] at hkx; rcases hkx with h | h <;> cases h
        | false => rw [hxp] at hx; simp at hx
    refine codeAny_func ((hbody _ s.heap.objs.size cd hR.deeper).run l items X hb s _ _ _ hi K fun v s₂ ρ' K₂ hv => ?_)
    exact hQ v s₂ K₂.same K₂.it K₂.keep hv

/-- `f(iter(e))` of such a def -/
theorem ev_iter_call {k : Nat} {a : Addr} {i' : Nat} {f name p : Str} {fp ip pos pos' : Pos} {e : Expr} {params : Arguments} {body : List Stmt} {scope : Scope} {r : PV} (hR : Room (k + 1) A) (hf : FnIs τ a name params body scope)
    (hbind : ∀ (pm cd doc : Value) (v : Value), bindArgs { name := name, qualname := name, params := params, body := .stmts body, scope := scope, globals := mainGlobals, closure := [], defaults := .none, kwdefaults := .none, doc := doc, pyModule := pm, code := cd, builtins := builtinsNs } ⟨[v], []⟩ = pure [(p, v)])
    (hname : scope.names.lookup p = some .local) (hnc : ∀ y ∈ scope.names, y.2 ≠ .cell)
    (hbody : ∀ I (A' : Around) L cd, Room k A' → ExK prog w τ A' (fenv name scope a L cd []) I ns [(p, .adr I)] 0 body (.ret r i')) (hra : r.atom = true)
    (he : Ev prog w τ A env ρ e (.list (ns.map .int))) (hkf : env.kindOf f = some .globalImplicit) (hmf : τ.mg f = some (.ref a)) (hki : env.kindOf "iter" = some .globalImplicit) (hmi : τ.mg "iter" = none)
    (hst : starEach [.Call (.Name "iter" ip) [e] [] pos'] env = [(false, eval (.Call (.Name "iter" ip) [e] [] pos') env)] := by rfl)
    (hst' : starEach [e] env = [(false, eval e env)] := by rfl)
    (hd : (f == ("__debug__" : Str)) = false := by decide)
    (hk : scope.kind = .function := by rfl) (hco : scope.isCoroutine = false := by rfl) (hgen : scope.isGenerator = false := by rfl) :
    Ev prog w τ A env ρ (.Call (.Name f fp) [.Call (.Name "iter" ip) [e] [] pos'] [] pos) r := .mk fun X h₀ own s Q E F hQ => by
  obtain ⟨o, fd, ho, hdat⟩ := hf.isFn _ F.tt
  refine wpAny_Call_NameR (name_global F hkf hmf (callWith_def (o := o) (fd := fd) hdat (args_cons (wpAny_Call_NameR (name_builtin F hki hmi (f := .builtin "iter") (by decide +kernel) (by decide) (callWith_builtin1
    (args_cons (he.run X h₀ own s _ E F fun v s₁ k₁ r₁ => args_nil ?_) hst') hst' rfl))) hst) hst) hd)
  obtain ⟨l, vs, rfl, ⟨hl, hXl⟩, hr⟩ := r₁.list
  refine iter_list hl.isList fun h' hit hk' => args_nil ⟨hk' _ _ (Keepsl k₁ _ _ ho), ?_⟩
  have F₁ := F.fk k₁
  have hne : s₁.heap.get? s₁.heap.objs.size = none := get_none (Nat.le_refl _)
  refine call_iter (ns := ns) (X := X) (hb := s₁.heap) (s := { s₁ with heap := h' }) (items := vs.toArray) hR hf hbind hname hnc (fun A' L cd hR' => hbody _ A' L cd hR') F₁.tt hk' (fun a ha => let ⟨o, e⟩ := F₁.xs a ha; ⟨o, hk' _ _ e⟩) hit (hl.isList.at fun o e => hk' _ _ e)
    (by simpa using hr.ints) (fun h => by subst h; obtain ⟨n, e⟩ := hl; rw [hne] at e; cases e) hne (fun h => by obtain ⟨o, e⟩ := F₁.xs _ h; rw [hne] at e; cases e) (fun v s' hs' _ hkeep rv => ?_) hk hco hgen
  obtain ⟨h2, t2, rfl⟩ := hs'
  refine hQ v _ ?_ rv
  obtain ⟨h1, t1, rfl, kk⟩ := k₁
  exact ⟨h2, t2, rfl, fun b o e => hkeep b o (fun h => Nat.lt_irrefl _ (h ▸ Heap.lt_size (kk _ _ e))) (hk' _ _ (kk _ _ e))⟩
end
end Mine

/-! V20 -/
namespace Mine
set_option linter.unusedVariables false
section
variable {prog : Program} {w : World} {τ : TopI} {A : Around} {own : List Str} {env : Env} {ρ : List (Str × PV)}

theorem set_plain {E : Value → Shared → Prop} {s : Shared} {l : Addr} {items : Array Value} {k : Int} {t : Tok} {v : Value} {Q : Unit → Shared → Prop} (hl : s.heap.PlainList l items)
    (h0 : 0 ≤ k) (hfit : k < 2 ^ 63) (hn : k < items.size)
    (hQ : ∀ h', h'.PlainList l (items.setIfInBounds k.toNat v) → Heap.SameBut l s.heap h' → Q () { s with heap := h' }) :
    wpAny (model prog w) A (setItem (.ref l) (.int k t) v) Q E s := by
  obtain ⟨ne, ho⟩ := hl
  have hL : s.heap.IsList l items := ⟨_, ho, rfl, ne, rfl⟩
  unfold setItem
  try with_reducible refine wpAny_holding ?_
  first | refine wpAny_bind (wpAny_pure ?_) | skip
  refine wpAny_bind (wpAny_sequenceKey hL.typeIs (by decide) ?_)
  refine wpAny_bind (wpAny_callSpecial?_slot (name := Str.ofString "__setitem__") hL.typeIs slot_list_setitem
    (wpAny_call_entry slot_list_setitem hL.typeIs entry_list_setitem ?_ (args_list_setitem _ _ _)))
  show wpAny _ _ (Builtin.List.listSubscript? (.int k t) >>= _) _ _ s
  refine wpAny_bind (wpAny_listSubscript_int (fitsIndex_of h0 hfit) ?_)
  clear hfit
  obtain ⟨j, rfl⟩ := Int.eq_ofNat_of_zero_le h0
  have hj : j < items.size := by omega
  have hx' : items[j]? = some items[j] := Array.getElem?_eq_getElem hj
  show wpAny _ _ ((seqItemAt l j >>= fun r => pure (r.map (j, ·))) >>= _) _ _ s
  refine wpAny_bind (wpAny_bind (wpAny_seqItemAt ho rfl (wpAny_pure ?_)))
  rw [hx']
  show wpAny _ _ (setSeqItemAt l j v >>= _) _ _ s
  have hfin : (s.heap.update l (Obj.mapSeq (·.setIfInBounds j v))).PlainList l (items.setIfInBounds j v) := by
    have := Heap.get?_update_self (Obj.mapSeq (·.setIfInBounds j v)) ho (by simp [Obj.mapSeq]; rfl)
    exact ⟨_, by rw [this]; rfl⟩
  refine wpAny_bind (wpAny_setSeqItemAt ho rfl ?_)
  first
    | exact wpAny_bind (wpAny_pure (wpAny_pure ⟨.none, rfl, wpAny_pure (hQ _ hfin (Heap.SameBut.update ..))⟩))
    | exact wpAny_pure ⟨.none, rfl, wpAny_pure (hQ _ hfin (Heap.SameBut.update ..))⟩

/-- the frame's facts, the list at a being written -/
def FL (Y : Addr → Prop) (τ : TopI) (h₀ : Heap) (own : List Str) (env : Env) (ρ : List (Str × PV)) (a : Addr) (ns : List Int) (h : Heap) : Prop :=
  FI Y τ h₀ own env ρ h ∧ Y a ∧ h₀.get? a = none ∧ ∃ vs : List Value, h.PlainList a vs.toArray ∧ IntsAre vs ns

theorem intsAre_len {vs : List Value} {ns : List Int} (h : IntsAre vs ns) : vs.length = ns.length := by
  induction h with
  | nil => rfl
  | cons _ _ _ ih => simp [ih]

theorem intsAre_set {vs : List Value} {ns : List Int} (h : IntsAre vs ns) : ∀ (j : Nat) (n : Int) (t : Tok), IntsAre (vs.set j (.int n t)) (ns.set j n) := by
  induction h with
  | nil => intro j n t; simp; exact .nil
  | cons m u h ih =>
    intro j n t
    cases j with
    | zero => exact .cons n t h
    | succ j => exact .cons m u (ih j n t)

/-- `numbers[i] += v` -/
theorem aug_item {Y : Addr → Prop} {h₀ : Heap} {s : Shared} {Q : Flow → Shared → Prop} {E : Value → Shared → Prop} {x : Str} {np tp pos : Pos} {ie value : Expr} {a : Addr} {ns : List Int} {i v n : Int} (H : FL Y τ h₀ own env ρ a ns s.heap) (hown : allOwn own env = true)
    (hx : Ev prog w τ A env ρ (.Name x np) (.adr a)) (hi : Ev prog w τ A env ρ ie (.int i)) (hv : Ev prog w τ A env ρ value (.int v)) (h0 : 0 ≤ i) (h1 : i < 2 ^ 63) (hn : ns[i.toNat]? = some n)
    (hQ : ∀ s', (∃ h tk, s' = { s with heap := h, toks := tk }) → (∀ b o, b ≠ a → s.heap.get? b = some o → s'.heap.get? b = some o) → FL Y τ h₀ own env ρ a (ns.set i.toNat (n + v)) s'.heap → Q .next s')
    (hau : ∀ ov iv new, augStore ie ov iv new = (do holding [new, ov, iv] (setItem ov iv new); release [new, ov, iv] []; pure .next) := by intros; rfl) :
    wpAny (model prog w) A (exec (.AugAssign (.Subscript (.Name x np) ie tp) .Add value pos) env) Q E s := by
  obtain ⟨F, hYa, h0a, vs, hl, hi'⟩ := H
  refine wpAny_AugAssign_SubscriptAny (hx.run Y h₀ own s _ E F fun ov s₁ k₁ r₁ => hi.run Y h₀ own s₁ _ E (F.fk k₁) fun iv s₂ k₂ r₂ => ?_) hau
  have e := r₁.adr; subst e
  obtain ⟨t, rfl⟩ := r₂.int
  have k12 := ktrans k₁ k₂
  obtain ⟨t', ht'⟩ := hi'.get _ _ hn
  have hl₂ : s₂.heap.PlainList a vs.toArray := hl.at fun o e => Keepsl k12 _ _ e
  refine wpAny_getItem_list hl₂.isList h0 h1 (x := .int n t') (by simpa using ht') (hv.run Y h₀ own s₂ _ E (F.fk k12) fun b s₃ k₃ r₃ => ?_)
  obtain ⟨t₃, rfl⟩ := r₃.int
  refine P.iadd_int ?_
  have k13 := ktrans k12 k₃
  have hl₃ : s₃.heap.PlainList a vs.toArray := hl.at fun o e => Keepsl k13 _ _ e
  have hlt : i.toNat < ns.length := (List.getElem?_eq_some_iff.mp hn).1
  have hsz := intsAre_len hi'
  refine set_plain (s := { s₃ with toks := s₃.toks + 1 }) hl₃ h0 h1 (by rw [List.size_toArray, hsz]; omega) fun h' hl' hs' => ?_
  have F₃ := F.fk k13
  refine hQ _ ?_ (fun b o hb e => sameBut_stay hs' b o hb (Keepsl k13 _ _ e)) ⟨?_, hYa, h0a, vs.set i.toNat (.int (n + v) s₃.toks), ?_, ?_⟩
  · obtain ⟨h3, t3, rfl, _⟩ := k13
    exact ⟨h', _, rfl⟩
  · refine F₃.wr2 (Wr := (· = a)) (fun b o hb e => sameBut_stay hs' b o hb e) (fun h => ?_) (fun z c hc hkz h => ?_) (fun b o e h => by subst h; rw [h0a] at e; cases e) (fun b h => h) (fun b hb => ?_) fun b o hw hn => absurd (hw ▸ hYa) hn
    · obtain ⟨m, ⟨o', es, ep, ho', hd', _⟩, _⟩ := F₃.L
      obtain ⟨nn, e'⟩ := hl₃
      rw [show env.locals = a from h] at ho'
      rw [e'] at ho'; cases ho'; cases hd'
    · subst h
      obtain ⟨_, c', v₀, e', o', ho', hd'⟩ := F₃.cs z (allOwn_at hown hkz)
      rw [hc] at e'; cases e'
      obtain ⟨nn, e''⟩ := hl₃
      rw [e''] at ho'; cases ho'; cases hd'
    · by_cases hb' : b = a
      · subst hb'; obtain ⟨nn, e'⟩ := hl'; exact ⟨_, e'⟩
      · obtain ⟨o, e⟩ := F₃.xs b hb; exact ⟨o, sameBut_stay hs' b o hb' e⟩
  · have : vs.toArray.setIfInBounds i.toNat (.int (n + v) s₃.toks) = (vs.set i.toNat (.int (n + v) s₃.toks)).toArray := by simp
    rw [← this]; exact hl'
  · clear hQ hl' hn ht' hsz hlt hl hl₂ hl₃
    generalize i.toNat = j
    exact intsAre_set hi' j _ _
end
end Mine

/-! V21 -/
namespace Mine
set_option linter.unusedVariables false
section
variable {prog : Program} {w : World} {τ : TopI} {A : Around} {own : List Str} {env : Env} {ρ : List (Str × PV)}

/-- for over an iterator of tuples, a list of whole numbers being written in the body -/
theorem forU_mut {es : List Expr} {xs : List Str} {tk : Nat} {tp pos : Pos} {iter : Expr} {body : List Stmt} {items : List (List PV)} {a : Addr} {h₀ : Heap} (ρs : Nat → List (Str × PV)) (nss : Nat → List Int) (hit : ItU prog w τ A env ρ iter items) (hx : Nms own env es xs) (h0 : ρs 0 = ρ)
    (hlen : ∀ ps ∈ items, ps.length = xs.length)
    (hbody : ∀ i ps, items[i]? = some ps → ∀ (Y' : Addr → Prop) (s' : Shared) (Q : Flow → Shared → Prop) (E : Value → Shared → Prop), FL Y' τ h₀ own env ((xs.zip ps).reverse ++ ρs i) a (nss i) s'.heap →
      (∀ s'', (∃ h tk, s'' = { s' with heap := h, toks := tk }) → (∀ b o, b ≠ a → s'.heap.get? b = some o → b ≠ env.locals → (∀ z ∈ own, env.cells.lookup z ≠ some b) → s''.heap.get? b = some o) → FL Y' τ h₀ own env (ρs (i + 1)) a (nss (i + 1)) s''.heap → Q .next s'') → wpAny (model prog w) A (execs body env) Q E s')
    (hA : A.handled = none) (hown : allOwn own env = true) (hs : ∀ v, foldedSetIterable iter env v = pure v)
    (X : Addr → Prop) (s : Shared) (Q : Flow → Shared → Prop) (E : Value → Shared → Prop) (HF : FL X τ h₀ own env ρ a (nss 0) s.heap)
    (hQ : ∀ s', (∃ h tk, s' = { s with heap := h, toks := tk }) → (∀ b o, b ≠ a → s.heap.get? b = some o → b ≠ env.locals → (∀ z ∈ own, env.cells.lookup z ≠ some b) → s'.heap.get? b = some o) → FL X τ h₀ own env (ρs items.length) a (nss items.length) s'.heap → Q .next s') :
    wpAny (model prog w) A (exec (.For (.Tuple es tk tp) iter body [] pos) env) Q E s := by
  obtain ⟨F, hYa, h0a, vs₀, hl₀, hi₀⟩ := HF
  refine wpAny_For (hit.run X h₀ own s _ E F fun it s₂ hb k₂ kb kb' W => ?_) hs
  obtain ⟨I, fp, wr, Pt, St, Mid, rfl, Wl, hst, hwr, hP, hfp, hex, hexm, hXfp⟩ := W
  have F₂ := F.fk k₂
  have hafp : a ∉ fp := fun h => hXfp a h hYa
  have haL : a ≠ env.locals := fun h => by
    obtain ⟨m, ⟨o', es, n, ho', hd', _⟩, _⟩ := F.L
    obtain ⟨nn, e⟩ := hl₀
    rw [← h, e] at ho'; cases ho'; cases hd'
  have hac : ∀ z ∈ own, env.cells.lookup z ≠ some a := fun z hz hc => by
    obtain ⟨_, c', v₀, e', o', ho', hd'⟩ := F.cs z hz
    rw [hc] at e'; cases e'
    obtain ⟨nn, e⟩ := hl₀
    rw [e] at ho'; cases ho'; cases hd'
  have hLfp : env.locals ∉ fp := fun hm => by
    obtain ⟨o, e, h1, _⟩ := hfp _ hm
    obtain ⟨m, ⟨o', es, n, ho', hd', _⟩, _⟩ := F₂.L
    rw [e] at ho'; cases ho'; exact h1 _ _ hd'
  have hcfp : ∀ z ∈ own, ∀ c, env.cells.lookup z = some c → c ∉ fp := fun z hz c hc hm => by
    obtain ⟨o, e, _, h2⟩ := hfp _ hm
    obtain ⟨_, c', v₀, e', o', ho', hd'⟩ := F₂.cs z hz
    rw [hc] at e'; cases e'
    rw [e] at ho'; cases ho'; exact h2 _ hd'
  have sub := (Wl A hA).sub
  have hLw : env.locals ∉ wr := fun h => hLfp (sub _ h)
  have old : ∀ b, (∃ o, s.heap.get? b = some o) → b ∉ wr := fun b ⟨o, e⟩ hw => by have := kb _ _ e; rw [hwr b hw] at this; cases this
  have hcw : ∀ z c, env.cells.lookup z = some c → (env.kindOf z = some .cell ∨ env.kindOf z = some .free) → c ∉ wr := fun z c hc hk => by
    obtain ⟨_, c', v₀, e', o, ho, _⟩ := F.cs z (allOwn_at hown hk)
    rw [hc] at e'; cases e'
    exact old c ⟨o, ho⟩
  have h0w : ∀ b o, h₀.get? b = some o → b ∉ wr := fun b o e => old b ⟨o, F.keep _ _ e⟩
  have k2h : Stay s.heap s₂.heap := Keepsl k₂
  have haw : a ∉ wr := fun h => hafp (sub _ h)
  have FX : FI (fun a => X a ∨ a ∈ wr) τ h₀ own env ρ s₂.heap := F.forbid k2h (fun a o e y => y.elim id fun hw => absurd hw (old a ⟨o, e⟩)) fun a ha => by
    rcases ha with ha | ha
    · obtain ⟨o, e⟩ := F.xs a ha; exact ⟨o, k2h _ _ e⟩
    · exact hex 0 _ hst a ha
  have step : ∀ {j : Nat} {h h₁ : Heap}, FI (fun a => X a ∨ a ∈ wr) τ h₀ own env (ρs j) h → (∀ b o, b ∉ wr → h.get? b = some o → h₁.get? b = some o) → (∀ b ∈ wr, ∃ o, h₁.get? b = some o) → FI (fun a => X a ∨ a ∈ wr) τ h₀ own env (ρs j) h₁ := fun F' hk₁ hx₁ =>
    F'.wr2 (Wr := (· ∈ wr)) hk₁ hLw hcw h0w (fun a h => h) (fun a ha => by
      rcases ha with ha | ha
      · obtain ⟨o, e⟩ := F'.xs a (.inl ha)
        exact ⟨o, hk₁ a o (old a (F.xs a ha)) e⟩
      · exact hx₁ a ha) fun b o hw hn => absurd (.inr hw) hn
  refine codeAny_forLoop_any (fun k s' => ∃ i, FI (fun a => X a ∨ a ∈ wr) τ h₀ own env (ρs i) s'.heap ∧ (∃ vs : List Value, s'.heap.PlainList a vs.toArray ∧ IntsAre vs (nss i)) ∧ St i s'.heap ∧ (∃ h tk, s' = { s₂ with heap := h, toks := tk }) ∧
    (∀ b o, b ≠ a → hb.get? b = some o → b ≠ env.locals → (∀ z ∈ own, env.cells.lookup z ≠ some b) → s'.heap.get? b = some o) ∧ i ≤ items.length ∧ k = items.length + 1 - i) ?_ (items.length + 1)
    ⟨0, h0 ▸ FX, ⟨vs₀, hl₀.at fun o e => k2h _ _ e, hi₀⟩, hst, ⟨s₂.heap, s₂.toks, rfl⟩, fun b o _ e _ _ => kb' b o e, Nat.zero_le _, rfl⟩
  rintro k s' ⟨i, F', ⟨vsi, hli, hii⟩, hst', ⟨h', tk, rfl⟩, G, hi, rfl⟩
  have hLhb : ∃ o es n, hb.get? env.locals = some o ∧ o.data = .dict es n := by
    obtain ⟨m, ⟨o, es, n, ho, hd, _⟩, _⟩ := F.L
    exact ⟨o, es, n, kb _ _ ho, hd⟩
  have hchb : ∀ z ∈ own, ∀ c, env.cells.lookup z = some c → ∃ o v, hb.get? c = some o ∧ o.data = .cell v := fun z hz c hc => by
    obtain ⟨_, c', v₀, e', o, ho, hd⟩ := F.cs z hz
    rw [hc] at e'; cases e'
    exact ⟨o, _, kb _ _ ho, hd⟩
  by_cases hlt : i < items.length
  · refine (Wl A hA).item i _ _ _ hlt hst' fun T vals h₁ tk₁ hPv hT hmid hk₁ => ?_
    obtain ⟨ps, hp, hr⟩ := hP i vals hPv hlt
    dsimp only at hk₁ ⊢
    refine (Wl A hA).go es _ tp i T _ _ _ hmid fun h₂ hst₂ hk₂ => ?_
    dsimp only at hk₂
    have hk₁₂ : ∀ b o, b ∉ wr → h'.get? b = some o → h₂.get? b = some o := fun b o hw e => hk₂ b o hw (hk₁ b o hw e)
    have G₂ : ∀ b o, b ≠ a → hb.get? b = some o → b ≠ env.locals → (∀ z ∈ own, env.cells.lookup z ≠ some b) → h₂.get? b = some o := fun b o hba e h1 h2 => hk₁₂ b o (fun hw => by rw [hwr b hw] at e; cases e) (G b o hba e h1 h2)
    have hstS : StayS X hb h₂ := fun b o e hXa' hseq => by
      obtain ⟨xs, n, hd⟩ := hseq
      refine G₂ b o (fun h => hXa' (h ▸ hYa)) e (fun hb' => ?_) fun z hz hc => ?_
      · subst hb'
        obtain ⟨o', es, n', ho', hd'⟩ := hLhb
        rw [e] at ho'; cases ho'; rw [hd] at hd'; cases hd'
      · obtain ⟨o', u, ho', hd'⟩ := hchb z hz b hc
        rw [e] at ho'; cases ho'; rw [hd] at hd'; cases hd'
    have hrX : RepL (fun a => X a ∨ a ∈ wr) h₂ ps vals.toList := by
      have h1 : RepL (fun a => X a ∨ a ∈ wr) hb ps vals.toList := hr.more (fun a o e y => y.elim id fun hw => by rw [hwr a hw] at e; cases e) _ _
      exact h1.stayS (fun b o e hn hseq => hstS b o e (fun hx => hn (.inl hx)) hseq) _ _
    have F₁ := step F' hk₁₂ (hex _ _ hst₂)
    have hT₂ : h₂.IsTuple T vals := hT.at fun o e => hk₂ T o ((Wl A hA).apart i T _ hmid) e
    refine assign_tup (v := .none) (s := { s₂ with heap := h₂, toks := tk₁ }) (ps := ps) hx hA F₁ hT₂ hrX (hlen ps (List.mem_of_getElem? hp)) fun s₃ k₃ F₃ => ?_
    have hl₃ : s₃.heap.PlainList a vsi.toArray := (hli.at fun o e => hk₁₂ a o haw e).at fun o e => k₃.2 a o e haL fun z hz => hac z hz
    refine hbody i ps hp _ s₃ _ _ ⟨F₃, .inl hYa, h0a, vsi, hl₃, hii⟩ fun s₄ hs₄ kk₄ ⟨F₄, _, _, vs', hl', hi'⟩ => ?_
    have G₄ : ∀ b o, b ≠ a → hb.get? b = some o → b ≠ env.locals → (∀ z ∈ own, env.cells.lookup z ≠ some b) → s₄.heap.get? b = some o := fun b o hba e h1 h2 => kk₄ b o hba (k₃.2 b o (G₂ b o hba e h1 h2) h1 h2) h1 h2
    refine ⟨items.length + 1 - (i + 1), by omega, i + 1, F₄, ⟨vs', hl', hi'⟩, ?_, ?_, G₄, by omega, rfl⟩
    · exact (Wl A hA).frame _ _ _ hst₂ fun b hb' o e => kk₄ b o (fun h => hafp (h ▸ hb')) (k₃.2 b o e (fun h => hLfp (h ▸ hb')) fun z hz hc => hcfp z hz b hc hb') (fun h => hLfp (h ▸ hb')) fun z hz hc => hcfp z hz b hc hb'
    · obtain ⟨⟨h3, t3, e3⟩, _⟩ := k₃
      obtain ⟨h4, t4, e4⟩ := hs₄
      subst e3
      exact ⟨h4, t4, e4⟩
  · have hin : i = items.length := by omega
    subst hin
    refine (Wl A hA).done _ _ _ hst' fun h₁ tk₁ hk₁ => wpAny_execs_nil ?_
    have F₁ : FI X τ h₀ own env (ρs items.length) h₁ := F'.wr2 (Wr := (· ∈ wr)) hk₁ hLw hcw h0w (fun a h => .inl h) (fun a ha => by
        obtain ⟨o, e⟩ := F'.xs a (.inl ha)
        exact ⟨o, hk₁ a o (old a (F.xs a ha)) e⟩) fun b o hw hn => absurd (.inr hw) hn
    refine hQ _ ?_ (fun b o hba e h1 h2 => hk₁ b o (old b ⟨o, e⟩) (G b o hba (kb _ _ e) h1 h2)) ⟨F₁, hYa, h0a, vsi, hli.at fun o e => hk₁ a o haw e, hii⟩
    obtain ⟨h2, t2, rfl, _⟩ := k₂
    exact ⟨h₁, tk₁, rfl⟩
end
end Mine

/-! V22 -/
namespace Mine
set_option linter.unusedVariables false
section
variable {prog : Program} {w : World} {τ : TopI} {A : Around} {own : List Str} {env : Env} {ρ : List (Str × PV)}

theorem repL_ints {X : Addr → Prop} {h : Heap} {vs : List Value} {ns : List Int} (hi : IntsAre vs ns) : RepL X h (ns.map .int) vs := by
  induction hi with
  | nil => exact .nil
  | cons n t _ ih => exact .cons rep_int ih

/-- the list seen again -/
theorem FI.reveal {X Y : Addr → Prop} {h₀ h : Heap} {num : Str} {a : Addr} {p : PV} (F : FI Y τ h₀ own env ρ h) (hn : ρ.lookup num = some (.adr a)) (hk : env.kindOf num = some .local) (r : Rep X h p (.ref a)) (hs : ∀ a, X a → Y a) : FI X τ h₀ own env ((num, p) :: ρ) h := by
  have F' := F.allow hs
  refine ⟨F'.t, F'.xs, F'.keep, F'.fresh, F'.freshC, F'.glob, F'.blt, F'.fn, ?_, fun y q hy hky => ?_, F'.cs, F'.inj⟩
  · obtain ⟨m, n, H⟩ := F'.L
    refine ⟨m, n, fun y q hy hky => ?_⟩
    rw [List.lookup_cons] at hy
    cases hyx : y == num with
    | true =>
      rw [hyx] at hy; cases hy
      rw [beq_iff_eq] at hyx; subst hyx
      obtain ⟨v, hv, hr⟩ := H _ _ hn hk
      have := hr.adr; subst this
      exact ⟨_, hv, r⟩
    | false => rw [hyx] at hy; exact H y q hy hky
  · rw [List.lookup_cons] at hy
    cases hyx : y == num with
    | true => rw [beq_iff_eq] at hyx; subst hyx; rw [hk] at hky; rcases hky with h | h <;> cases h
    | false => rw [hyx] at hy; exact F'.C y q hy hky

theorem lookup_skip : ∀ {l r : List (Str × PV)} {y : Str}, (∀ p ∈ l, p.1 ≠ y) → (l ++ r).lookup y = r.lookup y
  | [], _, _, _ => rfl
  | (x, q) :: l, r, y, h => by
    rw [List.cons_append, List.lookup_cons]
    have : (y == x) = false := by
      have := h (x, q) List.mem_cons_self
      simpa using fun e : y = x => this e.symm
    rw [this]
    exact lookup_skip fun p hp => h p (List.mem_cons_of_mem _ hp)

/-- a list of whole numbers, written in a loop -/
theorem ex_mut {num : Str} {np sp lp : Pos} {ces : List Expr} {ks : List Int} {es : List Expr} {xs : List Str} {tk : Nat} {tp pos : Pos} {iter ie value : Expr} {np' tp' pos' : Pos} {items : List (List PV)} {rest : List Stmt} {o : Out} (nss : Nat → List Int) (iv vv nn : Nat → Int)
    (hc : CIs ces ks) (hks : ks.length ≤ sizeLine) (h0 : nss 0 = ks) (hloc : env.kindOf num = some .local) (hx : Nms own env es xs) (hfresh : ∀ x ∈ xs, x ≠ num ∧ ρ.lookup x = none)
    (hit : ∀ a, ItU prog w τ A env ((num, .adr a) :: ρ) iter items) (hlen : ∀ ps ∈ items, ps.length = xs.length)
    (hie : ∀ a i ps, items[i]? = some ps → Ev prog w τ A env ((xs.zip ps).reverse ++ (num, .adr a) :: ρ) ie (.int (iv i))) (hval : ∀ a i ps, items[i]? = some ps → Ev prog w τ A env ((xs.zip ps).reverse ++ (num, .adr a) :: ρ) value (.int (vv i)))
    (hiv : ∀ i, i < items.length → 0 ≤ iv i ∧ iv i < 2 ^ 63 ∧ (nss i)[(iv i).toNat]? = some (nn i) ∧ nss (i + 1) = (nss i).set (iv i).toNat (nn i + vv i))
    (hA : A.handled = none) (hown : allOwn own env = true) (hrest : Ex prog w τ A own env ((num, .list ((nss items.length).map .int)) :: (num, .adr 0) :: ρ) rest o)
    (hs : ∀ v, foldedSetIterable iter env v = pure v := by intro _; rfl) (hd : (num == ("__debug__" : Str)) = false := by decide)
    (hsw : swapsWith (.List ces lp) (some (.Name num np)) sp.line env = pure false := by rfl)
    (hau : ∀ ov iv new, augStore ie ov iv new = (do holding [new, ov, iv] (setItem ov iv new); release [new, ov, iv] []; pure .next) := by intros; rfl) :
    Ex prog w τ A own env ρ (.Assign [.Name num np] (.List ces lp) sp :: .For (.Tuple es tk tp) iter [.AugAssign (.Subscript (.Name num np') ie tp') .Add value pos'] [] pos :: rest) o := .mk fun X h₀ s Q E F hQ => by
  refine wpAny_execs_cons (wpAny_Assign_Name (wpAny_List_spliced (consts_spliced (X := X) hc fun vs s₁ k₁ r₁ => ⟨by rw [r₁.length, List.length_map]; exact hks, ?_⟩)) hsw)
  have F₁ := F.fk k₁
  obtain ⟨a, ha⟩ : ∃ a, s₁.heap.objs.size = a := ⟨_, rfl⟩
  rw [ha]
  have hnone : s₁.heap.get? a = none := get_none (ha ▸ Nat.le_refl _)
  have hXa : ¬ X a := fun h => by obtain ⟨o, e⟩ := F₁.xs a h; rw [hnone] at e; cases e
  have hpl : (s₁.heap.push { cls := .type "list", data := .seq vs.toArray }).PlainList a vs.toArray := ⟨0, by rw [← ha]; exact Heap.get?_push_size _ rfl⟩
  have FY : FI (fun b => X b ∨ b = a) τ h₀ own env ρ (s₁.heap.push { cls := .type "list", data := .seq vs.toArray }) := F₁.forbid (stay_push _ _) (fun b ob e y => y.elim id fun h => by subst h; rw [hnone] at e; cases e) fun b hb => by
    rcases hb with hb | rfl
    · obtain ⟨o, e⟩ := F₁.xs b hb; exact ⟨o, Heap.get?_push_of_some _ e⟩
    · obtain ⟨n, e⟩ := hpl; exact ⟨_, e⟩
  have h0a : h₀.get? a = none := by
    cases e : h₀.get? a with
    | none => rfl
    | some ob => have := F₁.keep _ _ e; rw [hnone] at this; cases this
  refine store_ (s := { s₁ with heap := s₁.heap.push { cls := .type "list", data := .seq vs.toArray } }) FY (.inl hloc) (rep_adr (a := a)) fun s₂ k₂ F₂ => ?_
  have haL : a ≠ env.locals := fun h => by
    obtain ⟨m, ⟨o', es, n, ho', hd', _⟩, _⟩ := FY.L
    obtain ⟨nn, e⟩ := hpl
    rw [← h, e] at ho'; cases ho'; cases hd'
  have hac : ∀ z ∈ own, env.cells.lookup z ≠ some a := fun z hz hc => by
    obtain ⟨_, c', v₀, e', o', ho', hd'⟩ := FY.cs z hz
    rw [hc] at e'; cases e'
    obtain ⟨nn, e⟩ := hpl
    rw [e] at ho'; cases ho'; cases hd'
  have hl₂ : s₂.heap.PlainList a vs.toArray := hpl.at fun o e => k₂.2 a o e haL hac
  refine wpAny_execs_cons (forU_mut (fun _ => (num, .adr a) :: ρ) nss (hit a) hx rfl hlen (fun i ps hp Y' s' Q' E' H hQ' => ?_) hA hown hs _ s₂ _ _ ⟨F₂, .inr rfl, h0a, vs, hl₂, h0 ▸ r₁.ints⟩ fun s₃ hs₃ kk₃ H₃ => ?_)
  · obtain ⟨hi1, hi2, hi3, hi4⟩ := hiv i (List.getElem?_eq_some_iff.mp hp).1
    have nm : ∀ y q, ((num, .adr a) :: ρ).lookup y = some q → ((xs.zip ps).reverse ++ (num, .adr a) :: ρ).lookup y = some q := fun y q hy => by
      rw [lookup_skip fun p hp' h => ?_]
      · exact hy
      · have hm : p.1 ∈ xs := (List.of_mem_zip (a := p.1) (b := p.2) (List.mem_reverse.mp hp')).1
        obtain ⟨n1, n2⟩ := hfresh _ hm
        rw [List.lookup_cons] at hy
        have : (y == num) = false := by simpa using fun e : y = num => n1 (h.trans e)
        rw [this, ← h, n2] at hy
        cases hy
    refine wpAny_execs_cons (aug_item H hown (ev_local (nm num _ (by simp)) hloc hd) (hie a i ps hp) (hval a i ps hp) hi1 hi2 hi3 (fun s'' hs'' kk H'' => wpAny_execs_nil (hQ' s'' hs'' (fun b o hb e _ _ => kk b o hb e) ?_)) hau)
    rw [hi4]
    exact ⟨H''.1.weak nm, H''.2⟩
  · obtain ⟨F₃, _, _, vs', hl', hi'⟩ := H₃
    have FX : FI X τ h₀ own env ((num, .list ((nss items.length).map .int)) :: (num, .adr a) :: ρ) s₃.heap := F₃.reveal (by simp) hloc (rep_list hl' hXa (repL_ints hi')) fun b h => .inl h
    have FX' : FI X τ h₀ own env ((num, .list ((nss items.length).map .int)) :: (num, .adr 0) :: ρ) s₃.heap := FX.weak fun y q hy => by
      rw [List.lookup_cons, List.lookup_cons] at hy ⊢
      cases hyx : y == num with
      | true => rw [hyx] at hy; exact hy
      | false => rw [hyx] at hy; exact hy
    refine hrest.run X h₀ s₃ Q E FX' (hQ.after ?_)
    obtain ⟨h1, t1, rfl, kk₁⟩ := k₁
    obtain ⟨⟨h2, t2, rfl⟩, kk₂⟩ := k₂
    obtain ⟨h3, t3, rfl⟩ := hs₃
    refine ⟨⟨h3, t3, rfl⟩, fun b o e h1' h2' => ?_⟩
    have hba : b ≠ a := fun h => by
      have hlt := Heap.lt_size (kk₁ _ _ e)
      rw [h, ← ha] at hlt
      exact Nat.lt_irrefl _ hlt
    exact kk₃ b o hba (kk₂ b o (Heap.get?_push_of_some _ (kk₁ _ _ e)) h1' h2') h1' h2'
end
end Mine

/-! V23 -/
namespace Mine
set_option linter.unusedVariables false
section
variable {prog : Program} {w : World} {τ : TopI} {A : Around} {env : Env} {ρ : List (Str × PV)} {R : Result → Shared → Prop} {s : Shared}

theorem compTurn_in (elt t0 i0 t1 i1 : Expr) (scope : Scope) (pos : Pos) (it acc : Value) (env : Env) :
    compTurn (.ListComp elt [⟨t0, i0, [], 0⟩, ⟨t1, i1, [], 0⟩] scope pos) 1 it acc env = (standAt i1.pos >>= fun _ => pyNext it >>= fun r => match r with
      | none => pure (.done .next)
      | some v => letOwnedTupleGo t1 it v >>= fun _ => assign t1 env v >>= fun _ =>
        (eval elt env >>= fun x => call (.builtin "list.append") [acc, x] >>= fun _ => pure ()) >>= fun _ => again (.compLoop (.ListComp elt [⟨t0, i0, [], 0⟩, ⟨t1, i1, [], 0⟩] scope pos) 1 it acc env)) := by rfl

theorem compTurn_out (elt t0 i0 t1 i1 : Expr) (scope : Scope) (pos : Pos) (it acc : Value) (env : Env) :
    compTurn (.ListComp elt [⟨t0, i0, [], 0⟩, ⟨t1, i1, [], 0⟩] scope pos) 0 it acc env = (standAt i0.pos >>= fun _ => pyNext it >>= fun r => match r with
      | none => pure (.done .next)
      | some v => letOwnedTupleGo t0 it v >>= fun _ => assign t0 env v >>= fun _ =>
        eval i1 env >>= fun x => standAt i1.pos >>= fun _ => foldedSetIterable i1 env x >>= fun x => (holding [x] (pyIter x)) >>= fun it' =>
          runOwn (.compStart (.ListComp elt [⟨t0, i0, [], 0⟩, ⟨t1, i1, [], 0⟩] scope pos) 1 it' acc env) env >>= fun _ => again (.compLoop (.ListComp elt [⟨t0, i0, [], 0⟩, ⟨t1, i1, [], 0⟩] scope pos) 0 it acc env)) := by rfl

theorem codeAny_loop_in {elt t0 i0 t1 i1 : Expr} {scope : Scope} {pos : Pos} {it acc : Value} {env : Env} (I : Nat → Shared → Prop)
    (turn : ∀ n s, I n s → wpAny (model prog w) A (pyNext it) (fun r s₁ => match r with
      | none => R (.ok .next) s₁
      | some v => wpAny (model prog w) A (assign t1 env v) (fun _ s₂ => wpAny (model prog w) A (eval elt env) (fun x s₃ =>
          wpAny (model prog w) A (call (.builtin "list.append") [acc, x]) (fun _ s₄ => ∃ m, m < n ∧ I m s₄) (notedBy (model prog w) A env fun e s' => R (.error e) s') s₃)
          (notedBy (model prog w) A env fun e s' => R (.error e) s') s₂) (notedBy (model prog w) A env fun e s' => R (.error e) s') s₁) (notedBy (model prog w) A env fun e s' => R (.error e) s') s)
    (n : Nat) (h : I n s) (ht : ∀ v, letOwnedTupleGo t1 it v = pure () := by intro _; rfl) :
    codeAny (model prog w) A (.compLoop (.ListComp elt [⟨t0, i0, [], 0⟩, ⟨t1, i1, [], 0⟩] scope pos) 1 it acc env) R s := by
  refine codeAny_loop rfl I (fun n s hI => ?_) n h
  show wpAny _ _ ((compTurn (.ListComp elt [⟨t0, i0, [], 0⟩, ⟨t1, i1, [], 0⟩] scope pos) 1 it acc env).onRaise (fun x => do noteFrame x env; theTreesLotGoes x)) _ _ s
  refine wpAny_noted ?_
  rw [compTurn_in]
  refine wpAny_bind (wpAny_standAt (wpAny_bind (wpAny_mono (turn n s hI) (fun r s₁ h₁ => ?_) fun _ _ h' => h')))
  cases r with
  | none => exact wpAny_pure h₁
  | some v =>
    refine wpAny_bind (wpAny_of_eq (ht v) ?_)
    exact wpAny_bind (wpAny_mono h₁ (fun _ s₂ h₂ => wpAny_bind (wpAny_bind (wpAny_mono h₂ (fun x s₃ h₃ => wpAny_bind (wpAny_mono h₃
      (fun _ s₄ h₄ => wpAny_pure (wpAny_pure ⟨rfl, h₄⟩)) fun _ _ h' => h')) fun _ _ h' => h'))) fun _ _ h' => h')

theorem codeAny_loop_out {elt t0 i0 t1 i1 : Expr} {scope : Scope} {pos : Pos} {it acc : Value} {env : Env} (I : Nat → Shared → Prop)
    (hs : ∀ v, foldedSetIterable i1 env v = pure v)
    (turn : ∀ n s, I n s → wpAny (model prog w) A (pyNext it) (fun r s₁ => match r with
      | none => R (.ok .next) s₁
      | some v => wpAny (model prog w) A (assign t0 env v) (fun _ s₂ => wpAny (model prog w) A (eval i1 env) (fun x s₃ => wpAny (model prog w) A (pyIter x) (fun it' s₄ =>
          codeAny (model prog w) A (.compStart (.ListComp elt [⟨t0, i0, [], 0⟩, ⟨t1, i1, [], 0⟩] scope pos) 1 it' acc env) (fun r s' => match r with | .ok f => ∃ m, m < n ∧ I m s' | .error e => cameBackBy (model prog w) A env (notedBy (model prog w) A env fun e s' => R (.error e) s') e s') s₄)
          (notedBy (model prog w) A env fun e s' => R (.error e) s') s₃) (notedBy (model prog w) A env fun e s' => R (.error e) s') s₂) (notedBy (model prog w) A env fun e s' => R (.error e) s') s₁) (notedBy (model prog w) A env fun e s' => R (.error e) s') s)
    (n : Nat) (h : I n s) (ht : ∀ v, letOwnedTupleGo t0 it v = pure () := by intro _; rfl) :
    codeAny (model prog w) A (.compLoop (.ListComp elt [⟨t0, i0, [], 0⟩, ⟨t1, i1, [], 0⟩] scope pos) 0 it acc env) R s := by
  refine codeAny_loop rfl I (fun n s hI => ?_) n h
  show wpAny _ _ ((compTurn (.ListComp elt [⟨t0, i0, [], 0⟩, ⟨t1, i1, [], 0⟩] scope pos) 0 it acc env).onRaise (fun x => do noteFrame x env; theTreesLotGoes x)) _ _ s
  refine wpAny_noted ?_
  rw [compTurn_out]
  refine wpAny_bind (wpAny_standAt (wpAny_bind (wpAny_mono (turn n s hI) (fun r s₁ h₁ => ?_) fun _ _ h' => h')))
  cases r with
  | none => exact wpAny_pure h₁
  | some v =>
    refine wpAny_bind (wpAny_of_eq (ht v) ?_)
    refine wpAny_bind (wpAny_mono h₁ (fun _ s₂ h₂ => wpAny_bind (wpAny_mono h₂ (fun x s₃ h₃ => wpAny_bind (wpAny_standAt (wpAny_bind (wpAny_of_eq (hs x) (wpAny_bind (wpAny_holding (wpAny_mono h₃ (fun it' s₄ h₄ => ?_) fun _ _ h' => h'))))))) fun _ _ h' => h')) fun _ _ h' => h')
    exact wpAny_bind (wpAny_runOwn (codeAny_mono h₄ fun r s' hr => by
      cases r with
      | ok f => exact wpAny_pure ⟨rfl, hr⟩
      | error e => exact hr))

theorem codeAny_start_in {elt t0 i0 t1 i1 : Expr} {scope : Scope} {pos : Pos} {it acc : Value} {env : Env}
    (h0 : codeAny (model prog w) A (.compLoop (.ListComp elt [⟨t0, i0, [], 0⟩, ⟨t1, i1, [], 0⟩] scope pos) 1 it acc env) R s)
    (h : wpAny (model prog w) A (pyIter it) (fun it' s' => codeAny (model prog w) A (.compLoop (.ListComp elt [⟨t0, i0, [], 0⟩, ⟨t1, i1, [], 0⟩] scope pos) 1 it' acc env) R s')
      (notedBy (model prog w) A env fun x s' => R (.error x) s') s) :
    codeAny (model prog w) A (.compStart (.ListComp elt [⟨t0, i0, [], 0⟩, ⟨t1, i1, [], 0⟩] scope pos) 1 it acc env) R s := by
  refine codeAny_of_tree ?_
  show wpAny _ _ ((compStart (.ListComp elt [⟨t0, i0, [], 0⟩, ⟨t1, i1, [], 0⟩] scope pos) 1 it acc env).onRaise (fun x => do noteFrame x env; standAt theWindowsPlace)) _ _ s
  refine wpAny_notedAt ?_
  unfold compStart
  show wpAny _ _ (ask >>= _) _ _ s
  refine wpAny_bind (wpAny_askSetting (wpAny_ite ?_))
  split
  · first
      | exact wpAny_bind (wpAny_pure (wpAny_pure (And.intro rfl h0)))
      | exact wpAny_pure (And.intro rfl h0)
  · first
      | exact wpAny_bind (wpAny_rule (wpAny_bind (wpAny_standAt (wpAny_bind (wpAny_mono h (fun it' s' h' => wpAny_pure (And.intro rfl h')) fun _ _ x => x)))))
      | (refine wpAny_bind (wpAny_rule ?_); show wpAny _ _ (standAt i1.pos >>= _) _ _ s; exact wpAny_bind (wpAny_standAt (wpAny_bind (wpAny_mono h (fun it' s' h' => wpAny_pure (And.intro rfl h')) fun _ _ x => x))))

/-- the inner clause, all of it -/
theorem comp_inner {elt t0 i0 i1 : Expr} {y : Str} {py pos : Pos} {scope : Scope} {items : List PV} (f : PV → PV) {Y : Addr → Prop} {hb h₂ : Heap} {D : Addr} {it : Value} {rs : List PV} {ys : List Value}
    (F : FI Y τ hb [] env ρ s.heap) (hYD : Y D) (hD : hb.get? D = none) (hpl : s.heap.PlainList D ys.toArray) (hys : RepL Y s.heap rs ys) (W : Wk Y prog w h₂ s it items) (hk₂ : Stay h₂ s.heap) (hbh : Stay hb h₂)
    (hYh : ∀ a, Y a → ∃ o, h₂.get? a = some o) (hLh : ∃ o, h₂.get? env.locals = some o) (hcells : ∀ z c, env.cells.lookup z = some c → (∃ o, h₂.get? c = some o) ∧ c ≠ D)
    (hy : env.kindOf y = some .local) (hyρ : ρ.lookup y = none)
    (helt : ∀ q ∈ items, Ev prog w τ A env ((y, q) :: ρ) elt (f q)) (hA : A.handled = none) (hsz : rs.length + items.length ≤ sizeLine)
    (hR : ∀ h' tk ys', FI Y τ hb [] env ρ h' → h'.PlainList D ys'.toArray → RepL Y h' (rs ++ items.map f) ys' → (∀ b o, b ≠ D → b ≠ env.locals → h₂.get? b = some o → h'.get? b = some o) → R (.ok .next) { s with heap := h', toks := tk }) :
    codeAny (model prog w) A (.compStart (.ListComp elt [⟨t0, i0, [], 0⟩, ⟨.Name y py, i1, [], 0⟩] scope pos) 1 it (.ref D) env) R s := by
  obtain ⟨I, fp, wr, P, St, rfl, Wl, hst, hwr, hP, hfp, hseqW, hXfp⟩ := W
  have hWs := (Wl A hA).sub
  have notwr : ∀ b, (∃ o, h₂.get? b = some o) → b ∉ wr := fun b ⟨o, e⟩ hw => by rw [hwr b hw] at e; cases e
  have hLw : env.locals ∉ wr := notwr _ hLh
  have hDL : D ≠ env.locals := fun h => by
    obtain ⟨m, ⟨o', es, n, ho', hd', _⟩, _⟩ := F.L
    obtain ⟨nn, e⟩ := hpl
    rw [← h, e] at ho'; cases ho'; cases hd'
  have hfpD : ∀ b ∈ fp, b ≠ D := fun b hb' h => by
    obtain ⟨o, e⟩ := hYh D hYD
    have := hXfp b hb' (h ▸ hYD)
    rw [h, e] at this; cases this
  have hDw : D ∉ wr := notwr _ (hYh D hYD)
  have drop : ∀ {q : PV} (z : Str) (r : PV), ρ.lookup z = some r → ((y, q) :: ρ).lookup z = some r := fun {q} z r hz => by
    rw [List.lookup_cons]
    have : (z == y) = false := by
      cases hzy : z == y with
      | false => rfl
      | true => rw [beq_iff_eq] at hzy; subst hzy; rw [hyρ] at hz; cases hz
    rw [this]; exact hz
  have loop : codeAny (model prog w) A (.compLoop (.ListComp elt [⟨t0, i0, [], 0⟩, ⟨.Name y py, i1, [], 0⟩] scope pos) 1 (.ref I) (.ref D) env) R s := by
    refine codeAny_loop_in (fun k s' => ∃ h' tk, ∃ ys' : List Value, ∃ j : Nat, s' = { s with heap := h', toks := tk } ∧ St j h' ∧ FI Y τ hb [] env ρ h' ∧ h'.PlainList D ys'.toArray ∧ RepL Y h' (rs ++ (items.take j).map f) ys' ∧
      (∀ b o, b ≠ D → b ≠ env.locals → h₂.get? b = some o → h'.get? b = some o) ∧ j ≤ items.length ∧ k = items.length + 1 - j) ?_ (items.length + 1)
      ⟨s.heap, s.toks, ys, 0, rfl, hst, F, hpl, by simpa using hys, fun b o _ _ e => hk₂ b o e, Nat.zero_le _, rfl⟩
    rintro k s' ⟨h', tk, ys', j, rfl, hst', F', hpl', hys', G, hj, rfl⟩
    by_cases hlt : j < items.length
    · refine (Wl A hA).item j _ _ _ hlt hst' fun v h₁ tk₁ hPv hst₁ hk₁ => ?_
      obtain ⟨q, hq, hr⟩ := hP j v hPv hlt
      have hqm : q ∈ items := List.mem_of_getElem? hq
      have G₁ : ∀ b o, b ≠ D → b ≠ env.locals → h₂.get? b = some o → h₁.get? b = some o := fun b o h1 h2 e => hk₁ b o (notwr b ⟨o, e⟩) (G b o h1 h2 e)
      have F₁ : FI Y τ hb [] env ρ h₁ := F'.wr (Wr := (· ∈ wr)) hk₁ hLw (fun z c hc _ => notwr c (hcells z c hc).1) (fun b o e => notwr b ⟨o, hbh b o e⟩) (fun b hb' => notwr b (hYh b hb')) fun b o hw _ e => hseqW _ _ hst' b hw o e
      have hr₁ : Rep Y h₁ q v := hr.stayS (fun b o e hYb hseq => by
        refine G₁ b o (fun h => hYb (h ▸ hYD)) (fun h => ?_) e
        obtain ⟨xs, n, hd⟩ := hseq
        obtain ⟨m, ⟨o', es, n', ho', hd', _⟩, _⟩ := F.L
        rw [← h, hk₂ _ _ e] at ho'; cases ho'; rw [hd] at hd'; cases hd') _ _
      have hys₁ : RepL Y h₁ (rs ++ (items.take j).map f) ys' := hys'.stayS (fun b o e _ hseq => by
        obtain ⟨xs, n, hd⟩ := hseq
        by_cases hbw : b ∈ wr
        · exact absurd hd (hseqW _ _ hst' b hbw o e xs n)
        · exact hk₁ b o hbw e) _ _
      refine wpAny_assign_Name (store_ (own := []) (s := { s with heap := h₁, toks := tk₁ }) F₁ (.inl hy) hr₁ fun s₃ k₃ F₃ => ?_)
      obtain ⟨⟨h₃, tk₃, rfl⟩, kk₃⟩ := k₃
      have kk₃ : ∀ b o, b ≠ env.locals → h₁.get? b = some o → h₃.get? b = some o := fun b o hb' e => kk₃ b o e hb' fun z hz => by cases hz
      have hys₃ : RepL Y h₃ (rs ++ (items.take j).map f) ys' := hys₁.stayS (fun b o e _ hseq => by
        refine kk₃ b o (fun h => ?_) e
        obtain ⟨xs, n, hd⟩ := hseq
        obtain ⟨m, ⟨o', es, n', ho', hd', _⟩, _⟩ := F₁.L
        rw [← h, e] at ho'; cases ho'; rw [hd] at hd'; cases hd') _ _
      have hpl₃ : h₃.PlainList D ys'.toArray := (hpl'.at fun o e => hk₁ D o hDw e).at fun o e => kk₃ D o hDL e
      refine (helt q hqm).run Y hb [] _ _ _ F₃ fun z s₄ k₄ r₄ => ?_
      have F₄ := F₃.fk k₄
      obtain ⟨h₅, tk₅, rfl, k₅⟩ := k₄
      have hlen := hys₃.length
      refine wpAny_list_append_plain (hpl₃.at fun o e => k₅ _ o e) (fun h₆ hl₆ hs₆ => ?_) ?_
      · have k₆ : ∀ b o, b ≠ D → h₅.get? b = some o → h₆.get? b = some o := fun b o hb' e => sameBut_stay hs₆ b o hb' e
        have F₆ : FI Y τ hb [] env ρ h₆ := (F₄.weak drop).wr2 (Wr := (· = D)) k₆ (fun h => hDL h.symm) (fun z c hc _ => (hcells z c hc).2) (fun b o e h => by subst h; rw [hD] at e; cases e) (fun b h => h) (fun b hb' => by
            by_cases hbD : b = D
            · subst hbD; obtain ⟨n, e⟩ := hl₆; exact ⟨_, e⟩
            · obtain ⟨o, e⟩ := F₄.xs b hb'; exact ⟨o, k₆ b o hbD e⟩) fun b o hw hn => absurd (hw ▸ hYD) hn
        have hseq6 : StayS Y h₅ h₆ := fun b o e hYb _ => k₆ b o (fun h => hYb (h ▸ hYD)) e
        refine ⟨items.length + 1 - (j + 1), by omega, h₆, tk₅, ys' ++ [z], j + 1, rfl, ?_, F₆, ?_, ?_, fun b o h1 h2 e => k₆ b o h1 (k₅ b o (kk₃ b o h2 (G₁ b o h1 h2 e))), by omega, rfl⟩
        · refine (Wl A hA).frame _ _ _ hst₁ fun b hb' o e => ?_
          obtain ⟨ob, hob, hnd, hnc⟩ := hfp b hb'
          have hbL : b ≠ env.locals := fun h => by
            obtain ⟨m, ⟨o', es, n', ho', hd', _⟩, _⟩ := F.L
            rw [← h, hob] at ho'; cases ho'; exact hnd _ _ hd'
          exact k₆ b o (fun h => hfpD b hb' h) (k₅ b o (kk₃ b o hbL e))
        · have e : ys'.toArray.push z = (ys' ++ [z]).toArray := by simp
          rw [← e]; exact hl₆
        · rw [take_succ_get hq, List.map_append, ← List.append_assoc]
          exact ((hys₃.stay k₅).append (RepL.one r₄)).stayS hseq6 _ _
      · rw [List.size_toArray, hlen, List.length_append, List.length_map, List.length_take]
        omega
    · have hin : j = items.length := by omega
      subst hin
      refine (Wl A hA).done _ _ _ hst' fun h₁ tk₁ hk₁ => ?_
      rw [List.take_length] at hys'
      have G₁ : ∀ b o, b ≠ D → b ≠ env.locals → h₂.get? b = some o → h₁.get? b = some o := fun b o h1 h2 e => hk₁ b o (notwr b ⟨o, e⟩) (G b o h1 h2 e)
      have F₁ : FI Y τ hb [] env ρ h₁ := F'.wr (Wr := (· ∈ wr)) hk₁ hLw (fun z c hc _ => notwr c (hcells z c hc).1) (fun b o e => notwr b ⟨o, hbh b o e⟩) (fun b hb' => notwr b (hYh b hb')) fun b o hw _ e => hseqW _ _ hst' b hw o e
      refine hR h₁ tk₁ ys' F₁ (hpl'.at fun o e => hk₁ D o hDw e) (hys'.stayS (fun b o e _ hseq => by
        obtain ⟨xs, n, hd⟩ := hseq
        by_cases hbw : b ∈ wr
        · exact absurd hd (hseqW _ _ hst' b hbw o e xs n)
        · exact hk₁ b o hbw e) _ _) G₁
  exact codeAny_start_in loop ((Wl A hA).self 0 _ _ _ hst loop)
end
end Mine

/-! V24 -/
namespace Mine
set_option linter.unusedVariables false
section
variable {prog : Program} {w : World} {τ : TopI} {A : Around} {env : Env} {ρ : List (Str × PV)}

theorem comp2_core {elt iter iter2 : Expr} {x y : Str} {px py pos : Pos} {scope : Scope} {items : List PV} (g : PV → List PV) (f : PV → PV → PV) {ipos : Pos} {use : Option (Value → Sem Unit)}
    {X : Addr → Prop} {h₀ : Heap} {own : List Str} {s : Shared} {Q : Value → Shared → Prop} {E : Value → Shared → Prop} (F : FI X τ h₀ own env ρ s.heap)
    (hit : It prog w τ A env ρ iter items)
    (hx : scope.names.lookup x = some .local) (hy : scope.names.lookup y = some .local) (hxy : y ≠ x) (hnc : ∀ z ∈ scope.names, z.2 ≠ .cell) (ok : compOk scope env ρ x = true) (hkind : scope.kind = .function)
    (hit2 : ∀ p ∈ items, ∀ C cs, It prog w τ A (compEnvC scope cs C env) ((x, p) :: ρ) iter2 (g p))
    (helt : ∀ p ∈ items, ∀ q ∈ g p, ∀ C cs, Ev prog w τ A (compEnvC scope cs C env) ((y, q) :: (x, p) :: ρ) elt (f p q))
    (hA : A.handled = none) (hsz : (items.flatMap fun p => (g p).map (f p)).length ≤ sizeLine) (hs : ∀ v, foldedSetIterable iter env v = pure v) (hs2 : ∀ env' v, foldedSetIterable iter2 env' v = pure v)
    (hfin : ∀ (D C : Addr) (s' : Shared) (m : Str → Option Value), Keeps s s' → Rep X s'.heap (.list (items.flatMap fun p => (g p).map (f p))) (.ref D) → s'.heap.Ns C m → s.heap.get? C = none → C ≠ D →
      compPost (model prog w) A E use Q (.ref D) C (.ok .next) s') :
    wpAny (model prog w) A (comprehension (.ListComp elt [⟨.Name x px, iter, [], 0⟩, ⟨.Name y py, iter2, [], 0⟩] scope pos) scope env ipos (newList []) false (eval iter env) use) Q E s := by
  obtain ⟨cl, hclos, hcl, hcl'⟩ := closureFor_ok (env := env) (scope := scope) fun y hy hk => by
    obtain ⟨⟨q, hq⟩, hk'⟩ := compOk_free ok y.1 (by rw [← hk]; exact hy)
    obtain ⟨c, u, e, _⟩ := F.C y.1 q hq hk'
    exact ⟨c, e⟩
  refine wpAny_comprehension_free (use := use) rfl hs hclos hkind (compOk_names ok) ?_
  refine hit.run X h₀ own s _ E F fun it s₂ hb k₂ kb kb' W => ?_
  refine wpAny_newList (items := []) ?_ (Nat.zero_le _)
  refine newEnv_comp fun cs h₄ ecs okc hnC k₄ => ?_
  rw [cells_none _ _ hnc] at ecs
  subst ecs
  obtain ⟨I, fp, wr, P, St, rfl, Wl, hst, hwr, hP, hfp, hseqW, hXfp⟩ := W
  have hz : (s₂.heap.push { cls := .type "list", data := .seq ([] : List Value).toArray }).objs.size = s₂.heap.objs.size + 1 := Heap.size_push ..
  dsimp only at okc hnC k₄ ⊢
  rw [hz] at okc hnC ⊢
  generalize hDe : s₂.heap.objs.size = D at okc hnC ⊢
  have kD : Stay s₂.heap h₄ := (stay_push _ _).trans k₄
  have hD2 : s₂.heap.get? D = none := get_none (hDe ▸ Nat.le_refl _)
  have noS2 : ∀ c, D ≤ c → s₂.heap.get? c = none := fun c hc => get_none (hDe ▸ hc)
  have noHb : ∀ c, D ≤ c → hb.get? c = none := fun c hc => by
    cases e : hb.get? c with
    | none => rfl
    | some o => exact absurd (kb' c o e) (by rw [noS2 c hc]; exact fun h => (by cases h))
  have hplD : h₄.PlainList D #[] := ⟨0, k₄ _ _ (by rw [← hDe]; exact Heap.get?_push_size _ rfl)⟩
  have hfpD : D ∉ fp := fun hm => by obtain ⟨o, e, _⟩ := hfp _ hm; rw [hD2] at e; cases e
  have hfpC : D + 1 ∉ fp := fun hm => by obtain ⟨o, e, _⟩ := hfp _ hm; rw [noS2 _ (Nat.le_succ _)] at e; cases e
  have hxk : (compEnvC scope ([] ++ cl) (D + 1) env).kindOf x = some .local := by rw [relabel_kind, hx]; rfl
  have hyk : (compEnvC scope ([] ++ cl) (D + 1) env).kindOf y = some .local := by rw [relabel_kind, hy]; rfl
  have hWs := (Wl A hA).sub
  have hCD : D ≠ D + 1 := Nat.ne_of_lt (Nat.lt_succ_self _)
  have hDw : D ∉ wr := fun h => hfpD (hWs _ h)
  have hCw : D + 1 ∉ wr := fun h => hfpC (hWs _ h)
  have hyρ : ((x, (PV.none : PV)) :: ρ).lookup y = none := by
    rw [List.lookup_cons]
    have : (y == x) = false := by simpa using hxy
    rw [this]
    exact (compOk_own ok y .local (mem_of_lookup hy) (.inl rfl)).resolve_left hxy
  have hcells : ∀ (h₂ : Heap), Stay hb h₂ → ∀ z c, (compEnvC scope ([] ++ cl) (D + 1) env).cells.lookup z = some c → (∃ o, h₂.get? c = some o) ∧ c ≠ D := fun h₂ k z c hc => by
    have hm : (z, c) ∈ cl := mem_of_lookup (show cl.lookup z = some c from hc)
    obtain ⟨e1, e2⟩ := hcl z c hm
    obtain ⟨⟨q, hq⟩, hk⟩ := compOk_free ok z e2
    obtain ⟨c', u, e3, ⟨o, ho, _⟩, _⟩ := F.C z q hq hk
    rw [e1] at e3; cases e3
    have hh := kb _ _ ho
    exact ⟨⟨o, k _ _ hh⟩, fun h => by subst h; rw [noHb c (Nat.le_refl _)] at hh; cases hh⟩
  have loop : ∀ s₄ : Shared, s₄ = { s₂ with heap := h₄ } → codeAny (model prog w) A (.compLoop (.ListComp elt [⟨.Name x px, iter, [], 0⟩, ⟨.Name y py, iter2, [], 0⟩] scope pos) 0 (.ref I) (.ref D) (compEnvC scope ([] ++ cl) (D + 1) env))
      (compPost (model prog w) A E use Q (.ref D) (D + 1)) s₄ := by
    rintro s₄ rfl
    refine codeAny_loop_out (fun k s' => ∃ h' tk, ∃ ys : List Value, ∃ i : Nat, s' = { s₂ with heap := h', toks := tk } ∧ St i h' ∧ h'.PlainList D ys.toArray ∧ (∃ m, h'.Ns (D + 1) m) ∧
      Stay hb h' ∧ RepL (fun a => X a ∨ a = D) h' ((items.take i).flatMap fun p => (g p).map (f p)) ys ∧ i ≤ items.length ∧ k = items.length + 1 - i) (hs2 _) ?_ (items.length + 1)
      ⟨h₄, s₂.toks, [], 0, rfl, (Wl A hA).frame 0 _ _ hst fun b _ o e => kD b o e, hplD, ⟨_, hnC⟩, kb'.trans kD, by simpa using RepL.nil, Nat.zero_le _, rfl⟩
    rintro k s' ⟨h', tk, ys, i, rfl, hst', hpl', ⟨m', hn'⟩, kh', hys, hi, rfl⟩
    by_cases hlt : i < items.length
    · refine (Wl A hA).item i _ _ _ hlt hst' fun v h₁ tk₁ hPv hst₁ hk₁ => ?_
      obtain ⟨p, hp, hr⟩ := hP i v hPv hlt
      have hpm : p ∈ items := List.mem_of_getElem? hp
      have kh₁ : Stay hb h₁ := fun b o e => hk₁ b o (fun hw => by rw [hwr b hw] at e; cases e) (kh' b o e)
      refine wpAny_assign_Name (comp_store (cs := []) (C := D + 1) (m := m') hkind rfl (.inl hxk) (hn'.at' fun o e => hk₁ _ o hCw e) (fun c e => by cases e) fun h₂ tk₂ m₂ hn₂ hml hmc hce hk₂ => ?_)
      dsimp only at hk₂
      have hk₂ : ∀ b o, b ≠ D + 1 → h₁.get? b = some o → h₂.get? b = some o := fun b o h1 e => hk₂ b o h1 (fun c hc => by cases hc) e
      have kh₂ : Stay hb h₂ := fun b o e => hk₂ b o (fun h => by rw [h, noHb _ (Nat.le_succ _)] at e; cases e) (kh₁ b o e)
      have hpl₂ : h₂.PlainList D ys.toArray := hpl'.at fun o e => hk₂ D o hCD (hk₁ D o hDw e)
      have hst₂ : St (i + 1) h₂ := (Wl A hA).frame _ _ _ hst₁ fun b hb' o e => hk₂ b o (fun h => hfpC (h ▸ hb')) e
      have seqS : StayS (fun a => X a ∨ a = D) h' h₂ := fun b o e hXb hseq => by
        obtain ⟨xs, n, hd⟩ := hseq
        by_cases hbw : b ∈ wr
        · exact absurd hd (hseqW _ _ hst' b hbw o e xs n)
        · refine hk₂ b o (fun h => ?_) (hk₁ b o hbw e)
          subst h
          obtain ⟨o', es, n', ho', hd', _⟩ := hn'
          rw [e] at ho'; cases ho'; rw [hd] at hd'; cases hd'
      have hys₂ := hys.stayS seqS _ _
      have Fi := comp_fi (X := X) (D := D) (C := D + 1) (lo := D + 1 + 1) (cs := []) (cl := cl) (p := p) (v := v) F hkind ok kb kh₂ (noHb _ (Nat.le_refl _)) (noHb _ (Nat.le_succ _)) (let ⟨n, e⟩ := hpl₂; ⟨_, e⟩) hr (fun y c h => by cases h)
        (fun c hc => noHb c (Nat.le_trans (by omega : D ≤ D + 1 + 1) hc)) .nil hcl hcl' hn₂ (.inl hx) hml (fun hk => by rw [hxk] at hk; cases hk)
      refine (hit2 p hpm (D + 1) ([] ++ cl)).run _ hb [] _ _ _ Fi fun it' s₃ h₂' k₃ k23 k3' W' => ?_
      have Fi₃ := Fi.fk k₃
      obtain ⟨h₃, tk₃, rfl, kk₃⟩ := k₃
      have hfull : items.take (i + 1) = items.take i ++ [p] := take_succ_get hp
      have hys₃ := hys₂.stay kk₃
      have hlen3 := hys₃.length
      have htot : ((items.take i).flatMap fun p => (g p).map (f p)).length + (g p).length ≤ sizeLine := by
        have e1 : items = items.take (i + 1) ++ items.drop (i + 1) := (List.take_append_drop _ _).symm
        rw [e1, hfull, List.flatMap_append, List.flatMap_append, List.length_append, List.length_append] at hsz
        simp only [List.flatMap_cons, List.flatMap_nil, List.append_nil, List.length_map] at hsz
        omega
      refine comp_inner (f := f p) (ρ := (x, p) :: ρ) Fi₃ (.inr rfl) (noHb _ (Nat.le_refl _)) (hpl₂.at fun o e => kk₃ _ o e) hys₃ W' k3' (fun b o e => k23 b o (kh₂ b o e)) (fun a ha => ?_) (let ⟨o, _, _, e, _⟩ := hn₂; ⟨o, k23 _ _ e⟩) (hcells _ fun b o e => k23 b o (kh₂ b o e)) hyk
        (by
          rw [List.lookup_cons] at hyρ ⊢
          have : (y == x) = false := by simpa using hxy
          rw [this] at hyρ ⊢
          exact hyρ) (fun q hq => helt p hpm q hq _ _) hA htot fun h₆ tk₆ ys' F₆ hpl₆ hys₆ kk₆ => ?_
      · obtain ⟨o, e⟩ := Fi.xs a ha; exact ⟨o, k23 _ _ e⟩
      · obtain ⟨m₆, hn₆, _⟩ := F₆.L
        refine ⟨items.length + 1 - (i + 1), by omega, h₆, tk₆, ys', i + 1, rfl, ?_, hpl₆, ⟨m₆, hn₆⟩, fun b o e => kk₆ b o (fun h => by rw [h, noHb _ (Nat.le_refl _)] at e; cases e) (fun h => by rw [show b = D + 1 from h, noHb _ (Nat.le_succ _)] at e; cases e) (k23 _ _ (kh₂ b o e)), ?_, by omega, rfl⟩
        · exact (Wl A hA).frame _ _ _ hst₂ fun b hb' o e => kk₆ b o (fun h => hfpD (h ▸ hb')) (fun h => hfpC ((show b = D + 1 from h) ▸ hb')) (k23 b o e)
        · rw [hfull, List.flatMap_append]
          simpa using hys₆
    · have hin : i = items.length := by omega
      subst hin
      refine (Wl A hA).done _ _ _ hst' fun h₁ tk₁ hk₁ => ?_
      rw [List.take_length] at hys
      have kk : Stay hb h₁ := fun b o e => hk₁ b o (fun hw => by rw [hwr b hw] at e; cases e) (kh' b o e)
      have k02 : Keeps s { s₂ with heap := h₁, toks := tk₁ } := by
        obtain ⟨ha, ta, ea, ka⟩ := k₂
        subst ea
        exact ⟨h₁, tk₁, rfl, kb.trans kk⟩
      have hCs : s.heap.get? (D + 1) = none := by
        cases e : s.heap.get? (D + 1) with
        | none => rfl
        | some o => have := kb _ _ e; rw [noHb _ (Nat.le_succ _)] at this; cases this
      refine hfin D (D + 1) _ m' k02 ?_ (hn'.at' fun o e => hk₁ _ o hCw e) hCs (Ne.symm hCD)
      have hpl₂ : h₁.PlainList D ys.toArray := hpl'.at fun o e => hk₁ D o hDw e
      refine rep_list hpl₂ (fun hXD => ?_) ?_
      · obtain ⟨o, e⟩ := F.xs _ hXD
        have := kb _ _ e
        rw [noHb _ (Nat.le_refl _)] at this; cases this
      · have : RepL (fun a => X a ∨ a = D) h₁ (items.flatMap fun p => (g p).map (f p)) ys := hys.stayS (fun b o e hXb hseq => by
          obtain ⟨xs, n, hd⟩ := hseq
          by_cases hbw : b ∈ wr
          · exact absurd hd (hseqW _ _ hst' b hbw o e xs n)
          · exact hk₁ b o hbw e) _ _
        exact this.less (fun a h => .inl h) _ _
  exact codeAny_compStart_list (loop _ rfl) ((Wl A hA).self 0 _ _ _ ((Wl A hA).frame 0 _ _ hst fun b _ o e => kD b o e) (loop _ rfl))
/-- such a comprehension laid to a local name -/
theorem exs_comp2 {own : List Str} {y : Str} {py spos : Pos} {elt iter iter2 : Expr} {x y' : Str} {px py' pos : Pos} {scope : Scope} {items : List PV} (g : PV → List PV) (f : PV → PV → PV)
    (hit : It prog w τ A env ρ iter items)
    (hx : scope.names.lookup x = some .local) (hy' : scope.names.lookup y' = some .local) (hxy : y' ≠ x) (hnc : ∀ z ∈ scope.names, z.2 ≠ .cell) (ok : compOk scope env ρ x = true) (hkind : scope.kind = .function)
    (hit2 : ∀ p ∈ items, ∀ C cs, It prog w τ A (compEnvC scope cs C env) ((x, p) :: ρ) iter2 (g p))
    (helt : ∀ p ∈ items, ∀ q ∈ g p, ∀ C cs, Ev prog w τ A (compEnvC scope cs C env) ((y', q) :: (x, p) :: ρ) elt (f p q))
    (hA : A.handled = none) (hsz : (items.flatMap fun p => (g p).map (f p)).length ≤ sizeLine) (hy : Sto own env y) (hsw : swapsWith (.ListComp elt [⟨.Name x px, iter, [], 0⟩, ⟨.Name y' py', iter2, [], 0⟩] scope pos) (some (.Name y py)) spos.line env = pure true := by rfl)
    (hs : ∀ v, foldedSetIterable iter env v = pure v := by intro _; rfl) (hs2 : ∀ env' v, foldedSetIterable iter2 env' v = pure v := by intro _ _; rfl) :
    ExS prog w τ A own env ρ (.Assign [.Name y py] (.ListComp elt [⟨.Name x px, iter, [], 0⟩, ⟨.Name y' py', iter2, [], 0⟩] scope pos) spos) (.next ((y, .list (items.flatMap fun p => (g p).map (f p))) :: ρ)) := .mk fun X h₀ s Q E F hQ => by
  rw [exec_Assign_Name_used _ _ _ _ hsw]
  refine wpAny_bind (wpAny_standAt (wpAny_bind ?_))
  show wpAny _ A (do let _ ← comprehension (.ListComp elt [⟨.Name x px, iter, [], 0⟩, ⟨.Name y' py', iter2, [], 0⟩] scope pos) scope env _ (newList []) false (eval iter env) (some (assign (.Name y py) env))) _ _ s
  refine wpAny_bind (comp2_core g f F hit hx hy' hxy hnc ok hkind hit2 helt hA hsz hs hs2 fun D C s' m k r hn hC hCD => ?_)
  show wpAny _ A (assign (.Name y py) env (.ref D)) _ E s'
  refine wpAny_assign_Name (store_ (F.fk k) hy r fun s₂ k₂ F₂ => ?_)
  have hLC : C ≠ env.locals := fun e => by
    obtain ⟨m', n, _⟩ := F.L
    obtain ⟨o, es, ep, ho, _⟩ := n
    rw [← e, hC] at ho; cases ho
  have hcC : ∀ z ∈ own, env.cells.lookup z ≠ some C := fun z hz e => by
    obtain ⟨_, c, v₀, e', hc⟩ := F.cs z hz
    rw [e] at e'; cases e'
    obtain ⟨o, ho, _⟩ := hc
    rw [hC] at ho; cases ho
  have hn₂ : s₂.heap.Ns C m := hn.at' fun o e => k₂.2 _ o e hLC hcC
  refine ⟨m, hn₂, fun h₃ hs₃ => wpAny_pure (wpAny_pure ?_)⟩
  have k3 : ∀ b o, b ≠ C → s₂.heap.get? b = some o → h₃.get? b = some o := sameBut_stay hs₃
  obtain ⟨⟨h2, t2, e2⟩, kk2⟩ := k₂
  obtain ⟨h1, t1, e1, kk1⟩ := k
  subst e1
  subst e2
  refine hQ _ ⟨⟨h₃, t2, rfl⟩, fun b o e q1 q2 => k3 b o (fun h => by rw [h, hC] at e; cases e) (kk2 b o (kk1 b o e) q1 q2)⟩ ?_
  -- the frame's facts, C aside
  have kS : StayS X h2 h₃ := fun b o e _ hseq => k3 b o (fun hb => by
    subst hb; obtain ⟨xs, n, hd⟩ := hseq; exact ns_noseq hn₂ e xs n hd) e
  have kcell : ∀ c u, h2.IsCell c u → h₃.IsCell c u := fun c u hc => hc.sameBut hs₃ (fun e => by subst e; exact ns_nocell hn₂ hc)
  have noC0 : h₀.get? C = none := by
    cases e : h₀.get? C with
    | none => rfl
    | some o => have := F.keep _ _ e; rw [hC] at this; cases this
  refine ⟨F₂.t, fun a ha => ?_, fun b o e => k3 b o (fun h => by rw [h, noC0] at e; cases e) (F₂.keep b o e), F₂.fresh, F₂.freshC, F₂.glob, F₂.blt, F₂.fn, ?_, fun z q hz hk => ?_, fun z hz => ?_, F₂.inj⟩
  · obtain ⟨o, e⟩ := F₂.xs a ha
    obtain ⟨o', e'⟩ := F.xs a ha
    exact ⟨o, k3 a o (fun h => by rw [h, hC] at e'; cases e') e⟩
  · obtain ⟨m', n', H⟩ := F₂.L
    refine ⟨m', n'.sameBut hs₃ (Ne.symm hLC), fun z q hz hk => ?_⟩
    obtain ⟨u, hu, hr⟩ := H z q hz hk
    exact ⟨u, hu, hr.stayS kS _ _⟩
  · obtain ⟨c, u, e, hc, hr⟩ := F₂.C z q hz hk
    exact ⟨c, u, e, kcell c _ hc, hr.stayS kS _ _⟩
  · obtain ⟨e, c, u, hc, hcc⟩ := F₂.cs z hz
    exact ⟨e, c, u, hc, kcell c _ hcc⟩

end
end Mine

/-! H6 -/
namespace Mine
set_option linter.unusedVariables false

theorem halt_done {den : Code → Sem Fin} {p : Program} {w : World} {s s' : Shared} {t : Thread} {f : Flow} (h : step den p w s t = .halt (.done f) s') : s' = s ∧ through t = true := by
  refine ⟨step_halt_same den p w s s' t _ h, ?_⟩
  obtain ⟨heap, gens, drawn, toks, os⟩ := s
  obtain ⟨cur, code, pos, stack⟩ := t
  cases cur <;> simp only [step, PySem.finish] at h <;> (repeat' split at h) <;> simp_all [through]

theorem sched_through {p : Program} {w : World} : ∀ {n : Nat} {s s' : Shared} {t : Thread} {f : Flow}, runN (denote table) p w n s t = .halted (.done f) s' →
    (∀ k s₁ t₁, runN (denote table) p w k s t = .running s₁ t₁ → t₁.calm = true) → s.asleep → ∃ m t₁, schedN (denote table) p w m (.single s t) = .running (.single s' t₁) ∧ through t₁ = true
  | 0, _, _, _, _, h, _, _ => by cases h
  | n + 1, s, s', t, f, h, hc, hz => by
    have e := sstep_single (denote table) p w s t (hc 0 s t rfl) hz
    simp only [runN] at h
    cases hs : step (denote table) p w s t with
    | go s₂ t₂ =>
      rw [hs] at h e
      rcases e with e | e
      · obtain ⟨m, t₁, h1, h2⟩ := sched_through h (fun k s₁ t₁ q => hc (k + 1) s₁ t₁ (by simp only [runN, hs]; exact q)) (Shared.asleep_of_life (step_life (denote table) p w s s₂ t t₂ hs) hz)
        exact ⟨m + 1, t₁, by simp only [schedN, e, Step.lift]; exact h1, h2⟩
      · cases e
    | halt o₂ s₂ =>
      rw [hs] at h
      cases h
      obtain ⟨rfl, h2⟩ := halt_done hs
      exact ⟨0, t, rfl, h2⟩

theorem through_of_wp {prog : Program} {w : World} {t : Sem Fin} {s : Shared} {R : Shared → Prop} (hreg : s.asleep)
    (h : wpAny (model prog w) callerA t (fun fin s' => ∃ f, fin = .done f ∧ R s' ∧ s'.gens = #[]) (fun _ _ => False) s) :
    ∃ n s₁ t₁, schedN (denote table) prog w n (.single s ⟨t, .builtin "claim.caller" {}, default, []⟩) = .running (.single s₁ t₁) ∧ through t₁ = true ∧ s₁.heap.life = s.heap.life ∧ R s₁ ∧ s₁.gens = #[] := by
  have h' := wp_of_wpAny_done (R := fun r s' => ((∃ f, r = .ok f) ∧ R s' ∧ s'.gens = #[]) ∧ leftWithCleanup s'.gens = false) caller_in
    (wpAny_mono h (fun _ _ ⟨f, e, a, b⟩ => ⟨f, e, ⟨⟨f, rfl⟩, a, b⟩, by rw [b]; simp [leftWithCleanup]⟩) fun _ _ x => x.elim) default
  obtain ⟨n, r, s₁, hn, ⟨f, rfl⟩, hR, hg⟩ := (wp_iff_halts (M := model prog w) (R := fun r s' => (∃ f, r = .ok f) ∧ R s' ∧ s'.gens = #[]) ..).mp h'
  obtain ⟨s₂, hr, hf, hc⟩ := runNI_real _ _ _ hn (outcomeOf_ends _)
  obtain rfl : s₂ = s₁ := Shared.eq_of_forget_eq hf hg
  obtain ⟨m, t₁, h1, h2⟩ := sched_through hr hc hreg
  exact ⟨m, s₂, t₁, h1, h2, runN_life (s := s) _ _ _ hr, hR, hg⟩
end Mine

/-! H7 -/
namespace Mine
set_option linter.unusedVariables false

def Booted (s : Shared) : Prop := s.gens = #[] ∧ ∃ mb mg c Pl, BootLeft s.heap mb mg c Pl

theorem boot_body {p : Program} {w : World} (hb : p.main.body = []) : BodyOk p w Booted := by
  intro h tk mb mg c Pl F hB
  rw [hb]
  refine codeAny_body rfl rfl (wpAny_execs_nil ?_)
  exact ⟨⟨_, rfl⟩, .of hB (fun _ _ _ _ e => e) hB.g, ⟨rfl, mb, mg, c, Pl, hB⟩, rfl⟩

theorem booted {p : Program} {w : World} (hb : (opening p).main.body = []) (hm : p.main.more = [] := by rfl) : (∃ s, AfterRun (opening p) w s) ∧ ∀ s, AfterRun (opening p) w s → Booted s ∧ s.asleep := by
  obtain ⟨h1, h2⟩ := AfterImport.of_body (boot_body (p := opening p) (w := w) hb) (by exact hm)
  exact ⟨h1, fun s hs => ⟨h2 s hs, AfterImport.life hs⟩⟩

theorem globalOf_ns {h : Heap} {mg : Str → Option Value} (n : h.Ns mainGlobals mg) (x : Str) : globalOf h x = mg x := by
  obtain ⟨o, es, ep, ho, hd, _, hf⟩ := n
  simp only [globalOf]
  rw [show h.get? mainNs = some o from ho]
  simp only [hd]
  exact hf x
theorem staticOf_ns {h : Heap} {mg : Str → Option Value} (n : h.Ns cStatics mg) (x : Str) : staticOf h x = mg x := by
  obtain ⟨o, es, ep, ho, hd, _, hf⟩ := n
  simp only [staticOf, ho, hd]
  exact hf x
theorem builtinOf_ns {h : Heap} {mg : Str → Option Value} (n : h.Ns builtinsNs mg) (x : Str) : builtinOf h x = mg x := by
  obtain ⟨o, es, ep, ho, hd, _, hf⟩ := n
  simp only [builtinOf, ho, hd]
  exact hf x

/-- what the top leaves behind -/
structure Left (w : World) (G : Addr → Facts) (s : Shared) : Prop where
  gens : s.gens = #[]
  asleep : s.asleep
  rest : ∃ mb mg Pl, s.heap.Ns mainGlobals mg ∧ s.heap.Ns builtinsNs mb ∧ (∀ x : Str, x ≠ "__name__" → mb x = bootBuiltins x) ∧ s.heap.Ns cStatics (fun _ => none) ∧
    (∀ n S, (G Pl).lookup n = some S → ∃ v, mg n = some v ∧ S s.heap v) ∧ (∀ x, (∀ p ∈ G Pl, p.1 ≠ x) → x ∉ bootMainNames → mg x = none) ∧ sysModules < Pl

theorem top_ran {p : Program} {w : World} {s₀ : Shared} {G : Addr → Facts} {ps : List (Nat × Nat)} (hB : Booted s₀) (hz : s₀.asleep) (hbt : behindTheImports p = p.main.body) (hann : hasAnns p.main.body = false) (hdoc : docOf p.main.body = none)
    (hGb : ∀ Pl, ((G Pl).map (·.1)).all (fun n => p.boundNames.contains n && !laidNames.contains n && n != "__builtins__") = true)
    (go : ∀ (A : Around) (c Pl F : Addr) (s : Shared) (mb mg : Str → Option Value) (Q : Flow → Shared → Prop), A.handled = none → TIv s.heap mg c Pl [] [] mg [] s.heap → s.heap.Ns builtinsNs mb → (∀ x : Str, x ≠ "__name__" → mb x = bootBuiltins x) → (∀ x, x ∉ bootMainNames → mg x = none) → builtinsNs ≠ Pl → sysModules < s.heap.objs.size →
      (∀ h' tk mg' l', TIv s.heap mg c Pl (G Pl) ps mg' l' h' → Q .next { s with heap := h', toks := tk }) → wpAny (model p w) A (execs p.main.body (mainEnv p c F)) Q (fun _ _ => False) s) :
    ∃ s₁, TopRan p w s₀ s₁ ∧ Left w G s₁ := by
  obtain ⟨hg0, mb, mg, c₀, Pl₀, hB⟩ := hB
  obtain ⟨n, s₁, t₁, h1, h2, h3, ⟨Pl, c, mg', l', h', tk, e, I, hlt⟩, h5⟩ := through_of_wp (prog := p) (w := w) (s := s₀)
    (t := do
      let code ← moduleCode p.main
      let frame ← newBodyFrame code mainNs mainNs
      let _ ← run (.body (behindTheImports p) { scope := p.main.scope, locals := mainNs, globals := mainNs, cells := [], code, frame := some frame })
      ret .none)
    (R := fun s' => ∃ Pl c mg' l' h' tk, s' = { s₀ with heap := h', toks := tk } ∧ TIv s₀.heap mg c Pl (G Pl) ps mg' l' h' ∧ s₀.heap.objs.size ≤ Pl) hz (by
    refine wpAny_bind (wpAny_moduleCode fun c Pl h₁ tk₁ hk₁ hc hPl hcode => ?_)
    unfold newBodyFrame
    refine wpAny_bind (wpAny_bind (wpAny_nsGet (hB.g.keeps hk₁) (wpAny_alloc ?_)))
    refine wpAny_bind (wpAny_run (codeAny_body (by rw [hbt]; exact hann) (by rw [hbt]; exact hdoc) ?_))
    rw [hbt]
    dsimp only
    have hk₂ : ∀ (o : Obj), Stay s₀.heap (h₁.push o) := fun o b ob e => Heap.get?_push_of_some _ (hk₁ _ _ e)
    have hglt := hB.g.lt
    obtain ⟨bm, ob, b1, b2, b3, b4, b5, b6⟩ := hB.bmod
    refine wpAny_mono (E := fun _ _ => False) (go _ c Pl _ _ mb mg _ rfl ⟨⟨(hB.g.keeps (hk₂ _)), hcode.push _, ⟨Nat.lt_of_lt_of_le hglt hc, Nat.lt_of_lt_of_le hglt hPl⟩, ⟨bm, ob, b1, b2, b3, Nat.ne_of_lt (Nat.lt_of_lt_of_le (Heap.lt_size b5) hPl), hk₂ _ _ _ b5, b6⟩⟩, rfl, fun n S e => by simp at e, fun _ _ => rfl, fun p hp => by simp at hp, fun _ _ _ _ e => e⟩
      (hB.b.keeps (hk₂ _)) hB.builtins hB.others (Nat.ne_of_lt (Nat.lt_of_lt_of_le hB.b.lt hPl)) (by rw [Heap.size_push]; obtain ⟨mm, hmm, _⟩ := hB.noPylong; exact Nat.lt_succ_of_lt (Heap.lt_size ((hmm.keeps hk₁).choose_spec.choose_spec.choose_spec.1))) fun h' tk mg' l' I => ?_) (fun _ _ x => x) fun _ _ x => x.elim
    · refine wpAny_pure ⟨_, rfl, ⟨Pl, c, mg', l', h', tk, rfl, ⟨I.main, I.places, I.facts, I.others, I.stab, fun b o n1 n2 e => I.keep b o n1 n2 (hk₂ _ _ _ e)⟩, hPl⟩, hg0⟩)
  subst e
  have nPl : ∀ b o, s₀.heap.get? b = some o → b ≠ Pl := fun b o e => Nat.ne_of_lt (Nat.lt_of_lt_of_le (Heap.lt_size e) hlt)
  have kk : ∀ b o, b ≠ mainGlobals → s₀.heap.get? b = some o → h'.get? b = some o := fun b o hb e => I.keep b o (nPl b o e) hb e
  have gN := I.main.g
  have hbl : h'.Ns builtinsNs mb := hB.b.at fun o e => kk _ o (by decide) e
  have hst : h'.Ns cStatics (fun _ => none) := hB.statics.at fun o e => kk _ o (by decide) e
  have inG : ∀ x, (∀ q ∈ G Pl, q.1 ≠ x) ∨ (x ∈ p.boundNames ∧ x ∉ laidNames ∧ x ≠ "__builtins__") := fun x => by
    by_cases hx : ∀ q ∈ G Pl, q.1 ≠ x
    · exact .inl hx
    · right
      have ⟨q, hq, e⟩ : ∃ q ∈ G Pl, q.1 = x := by
        refine Classical.byContradiction fun hn => hx fun q hq e => hn ⟨q, hq, e⟩
      have := List.all_eq_true.mp (hGb Pl) x (List.mem_map.mpr ⟨q, hq, e⟩)
      simp only [Bool.and_eq_true, List.contains_iff_mem, Bool.not_eq_true', bne_iff_ne, ne_eq] at this
      obtain ⟨⟨a, b⟩, c⟩ := this
      refine ⟨a, fun h => ?_, c⟩
      rw [List.contains_iff_mem.mpr h] at b; cases b
  refine ⟨_, ⟨⟨n, t₁, h1, h2⟩, h3, rfl, fun b o e hn => kk b o (fun hb => hn (.inl hb)) e, fun key v hk => ?_, fun key => .inl ?_, Pin.keysAreStrs_of_ns gN, fun x hx => ?_, ?_, fun g hg => ?_, fun x v hx => ?_, fun x hx => ?_⟩, ⟨h5, Shared.asleep_of_life h3 hz, mb, mg', Pl, gN, hbl, hB.builtins, hst, I.facts, fun x h1 h2 => (I.others x h1).trans (hB.others x h2), ?_⟩⟩
  · rw [staticOf_ns hst] at hk; cases hk
  · rw [staticOf_ns hst, staticOf_ns hB.statics]
  · rw [builtinOf_ns hbl]; exact hB.builtins x hx
  · obtain ⟨bm, ob, b1, b2, b3, b4, b5, b6, b7, _⟩ := hB.bmod
    refine ⟨bm, ob, ?_, kk _ _ b3 b5, b6, b7⟩
    rw [globalOf_ns gN]
    rcases inG "__builtins__" with h | h
    · rw [I.others _ h]; exact b1
    · exact absurd rfl h.2.2
  · rw [show s₀.gens = #[] from h5] at hg; simp at hg
  · rw [globalOf_ns gN] at hx
    rcases inG x with h | h
    · rw [I.others _ h] at hx
      by_cases hb : x ∈ bootMainNames
      · exact .inl hb
      · rw [hB.others x hb] at hx; cases hx
    · exact .inr h.1
  · rw [globalOf_ns gN, globalOf_ns hB.g]
    rcases inG x with h | h
    · exact I.others _ h
    · exact absurd hx h.2.1
  · obtain ⟨mm, ⟨o, _, _, hmm, _⟩, _⟩ := hB.noPylong
    exact Nat.lt_of_lt_of_le (Heap.lt_size hmm) hlt
end Mine

/-! H8 -/
namespace Mine
set_option linter.unusedVariables false

def ascB : List Int → Bool
  | a :: b :: r => decide (a < b) && ascB (b :: r)
  | _ => true
theorem asc_lt : ∀ {l : List Int} {a : Int}, ascB (a :: l) = true → ∀ b ∈ l, a < b
  | [], a, _, b, hb => by cases hb
  | c :: r, a, h, b, hb => by
    unfold ascB at h
    rw [Bool.and_eq_true, decide_eq_true_eq] at h
    rcases List.mem_cons.mp hb with rfl | hb
    · exact h.1
    · exact Int.lt_trans h.1 (asc_lt h.2 b hb)
theorem asc_nodup : ∀ {l : List Int}, ascB l = true → l.Nodup
  | [], _ => .nil
  | [a], _ => by simp
  | a :: b :: r, h => by
    refine List.nodup_cons.mpr ⟨fun hm => absurd (asc_lt h a hm) (Int.lt_irrefl _), ?_⟩
    unfold ascB at h
    rw [Bool.and_eq_true] at h
    exact asc_nodup h.2

def noDef : DefRec := ⟨⟨#[]⟩, ⟨[], [], none, [], [], none, []⟩, [], ⟨.module, [], false, false, []⟩, default⟩
/-- the def that stands at the i-th place of the text -/
def dAt (p : Program) (i : Nat) : DefRec := match p.main.body[i]? with
  | some (.FunctionDef name params body [] none [] scope none _ pos) => ⟨name, params, body, scope, pos⟩
  | _ => noDef
/-- the table that stands at the i-th place of the text -/
def tabAt (p : Program) (i : Nat) : List (Int × Str) := match p.main.body[i]? with
  | some (.Assign _ (.Dict ks vs _) _) => (constsOf ks vs).getD []
  | _ => []

theorem exec_drop {M : Model} {A : Around} {env : Env} {E : Value → Shared → Prop} {s : Shared} {body : List Stmt} {i : Nat} {st : Stmt} {Q : Flow → Shared → Prop} (h : body[i]? = some st)
    (hw : wpAny M A (exec st env) (fun f s' => match f with | .next => wpAny M A (execs (body.drop (i + 1)) env) Q E s' | f => Q f s') E s) : wpAny M A (execs (body.drop i) env) Q E s := by
  obtain ⟨hi, e⟩ := List.getElem?_eq_some_iff.mp h
  rw [List.drop_eq_getElem_cons hi, e]
  exact wpAny_execs_cons hw
theorem exec_end {M : Model} {A : Around} {env : Env} {E : Value → Shared → Prop} {s : Shared} {body : List Stmt} {i : Nat} {Q : Flow → Shared → Prop} (h : body.drop i = []) (hw : Q .next s) : wpAny M A (execs (body.drop i) env) Q E s := by
  rw [h]; exact wpAny_execs_nil hw

section
variable {prog : Program} {w : World} {A : Around} {E : Value → Shared → Prop} {h₀ : Heap} {mg₀ mg : Str → Option Value} {c Pl F : Addr} {G : Facts} {ps : List (Nat × Nat)} {l : List (Pos × Addr)} {s : Shared}

theorem top_str {n : Str} {np pos p₂ : Pos} {k : Nat} {x : Str} {Q : Flow → Shared → Prop} (I : TIv h₀ mg₀ c Pl G ps mg l s.heap) (hmod : prog.main.scope.kind = .module) (hloc : prog.main.scope.names.lookup n = some .local) (hnb : n ≠ "__builtins__")
    (hQ : ∀ v h' tk, TIv h₀ mg₀ c Pl ((n, SStr x) :: G) ps (fun x => if x = n then some v else mg x) l h' → Q .next { s with heap := h', toks := tk })
    (hsw : swapsWith (.Constant (.str x) k p₂) (some (.Name n np)) pos.line (mainEnv prog c F) = pure false := by rfl) :
    wpAny (model prog w) A (exec (.Assign [.Name n np] (.Constant (.str x) k p₂) pos) (mainEnv prog c F)) Q E s :=
  top_assign I hmod hloc hnb sstr_stable hsw (fun Q' hq => wpAny_Constant_str (hq _ s.heap _ (Stay.refl _) ⟨_, rfl⟩)) hQ

theorem top_dict {n : Str} {np pos p₂ : Pos} {keys : List (Option Expr)} {values : List Expr} {cs : List (Int × Str)} {Q : Flow → Shared → Prop} (I : TIv h₀ mg₀ c Pl G ps mg l s.heap) (hmod : prog.main.scope.kind = .module) (hloc : prog.main.scope.names.lookup n = some .local) (hnb : n ≠ "__builtins__")
    (hc : constsOf keys values = some cs) (hne : cs ≠ []) (hnd : (cs.map (·.1)).Nodup) (hsz : cs.length ≤ sizeLine) (hlow : sysModules < s.heap.objs.size)
    (hQ : ∀ v h' tk, TIv h₀ mg₀ c Pl ((n, SDict prog w Pl cs) :: G) ps (fun x => if x = n then some v else mg x) l h' → Q .next { s with heap := h', toks := tk })
    (hsw : swapsWith (.Dict keys values p₂) (some (.Name n np)) pos.line (mainEnv prog c F) = pure false := by rfl) :
    wpAny (model prog w) A (exec (.Assign [.Name n np] (.Dict keys values p₂) pos) (mainEnv prog c F)) Q E s :=
  top_assign I hmod hloc hnb (sdict_stable I.main.low.2) hsw (fun Q' hq => dict_display hc hne hnd hsz hlow fun h' tk kvs hd hs hk => hq _ h' tk hk ⟨_, kvs, rfl, hd, hs, I.main.code.lt.2⟩) hQ

theorem top_set {mb : Str → Option Value} {n : Str} {np pos : Pos} {Q : Flow → Shared → Prop} (I : TIv h₀ mg₀ c Pl G ps mg l s.heap) (hmod : prog.main.scope.kind = .module) (hloc : prog.main.scope.names.lookup n = some .local) (hnb : n ≠ "__builtins__")
    (hB : s.heap.Ns builtinsNs mb) (hblt : ∀ x : Str, x ≠ "__name__" → mb x = bootBuiltins x)
    (hA : A.handled = none) (h1 : mg "set" = none) (h2 : mg "list" = none) (h3 : mg "range" = none)
    {es : List Expr} {ks : List Int} (hc : CIs es ks) {a b : Int} {k : Nat} (hn : Builtin.Range.rangeSize a b 1 = k) (hs : Builtin.Range.small a b 1 = true) (hlen : k ≤ 2 ^ 24) (hks : ks.length + k + 1 < scanBound) (hks' : ks.length + k ≤ sizeLine)
    {p1 p2 p3 p4 p5 p6 p7 p8 p9 p10 : Pos} {i1 i2 : Nat}
    (hQ : ∀ v h' tk, TIv h₀ mg₀ c Pl ((n, SSet prog w Pl (memb (ks ++ (List.range k).map fun (i : Nat) => a + i))) :: G) ps (fun x => if x = n then some v else mg x) l h' → Q .next { s with heap := h', toks := tk })
    (hsw : swapsWith (.Call (.Name "set" p1) [.BinOp (.List es p2) .Add (.Call (.Name "list" p3) [.Call (.Name "range" p4) [.Constant (.int a) i1 p5, .Constant (.int b) i2 p6] [] p7] [] p8) p9] [] p10) (some (.Name n np)) pos.line (mainEnv prog c F) = pure false := by rfl) :
    wpAny (model prog w) A (exec (.Assign [.Name n np] (.Call (.Name "set" p1) [.BinOp (.List es p2) .Add (.Call (.Name "list" p3) [.Call (.Name "range" p4) [.Constant (.int a) i1 p5, .Constant (.int b) i2 p6] [] p7] [] p8) p9] [] p10) pos) (mainEnv prog c F)) Q E s :=
  top_assign I hmod hloc hnb (sset_stable I.main.low.2) hsw (fun Q' hq => set_expr (h₀ := h₀) (mg₀ := mg₀) I.main hmod hB hblt hA h1 h2 h3 (by decide +kernel) (by decide +kernel) (by decide +kernel) hc hn hs hlen hks hks' fun h' tk d n' hS hk hd =>
    hq _ h' tk hk ⟨d, n', rfl, hS, by
      obtain ⟨o, e⟩ : ∃ o, s.heap.get? Pl = some o := by
        obtain ⟨_, _, _, _, _, _, _, _, _, op, _, _, _, _, _, _, _, e, _⟩ := I.main.code
        exact ⟨op, e⟩
      exact hd _ _ e⟩) hQ

/-- a display, hidden: the expression is a bare name, so that nothing unfolds its evaluation -/
theorem dict_fact (keys : List (Option Expr)) (values : List Expr) (p₂ : Pos) {cs : List (Int × Str)} (hc : constsOf keys values = some cs) (hne : cs ≠ []) (hnd : (cs.map (·.1)).Nodup) (hsz : cs.length ≤ sizeLine) :
    ∃ d : Expr, d = .Dict keys values p₂ ∧ (∀ (t : Option Expr) (n : Nat) (env : Env), swapsWith d t n env = pure false) ∧
      ∀ (prog : Program) (w : World) (A : Around) (E : Value → Shared → Prop) (env : Env) (s : Shared) (Q : Value → Shared → Prop), sysModules < s.heap.objs.size →
        (∀ h' tk kvs, h'.DictOf (intKind prog w) s.heap.objs.size kvs → Sts kvs cs → Stay s.heap h' → Q (.ref s.heap.objs.size) { s with heap := h', toks := tk }) → wpAny (model prog w) A (eval d env) Q E s :=
  ⟨_, rfl, fun _ _ _ => rfl, fun prog w A E env s Q hlow hQ => dict_display hc hne hnd hsz hlow hQ⟩

theorem top_dict' {n : Str} {np pos : Pos} {d : Expr} {cs : List (Int × Str)} {Q : Flow → Shared → Prop} (I : TIv h₀ mg₀ c Pl G ps mg l s.heap) (hmod : prog.main.scope.kind = .module) (hloc : prog.main.scope.names.lookup n = some .local) (hnb : n ≠ "__builtins__")
    (hsw : ∀ (t : Option Expr) (n : Nat) (env : Env), swapsWith d t n env = pure false)
    (he : ∀ (prog : Program) (w : World) (A : Around) (E : Value → Shared → Prop) (env : Env) (s : Shared) (Q : Value → Shared → Prop), sysModules < s.heap.objs.size →
        (∀ h' tk kvs, h'.DictOf (intKind prog w) s.heap.objs.size kvs → Sts kvs cs → Stay s.heap h' → Q (.ref s.heap.objs.size) { s with heap := h', toks := tk }) → wpAny (model prog w) A (eval d env) Q E s)
    (hlow : sysModules < s.heap.objs.size)
    (hQ : ∀ v h' tk, TIv h₀ mg₀ c Pl ((n, SDict prog w Pl cs) :: G) ps (fun x => if x = n then some v else mg x) l h' → Q .next { s with heap := h', toks := tk }) :
    wpAny (model prog w) A (exec (.Assign [.Name n np] d pos) (mainEnv prog c F)) Q E s :=
  top_assign I hmod hloc hnb (sdict_stable I.main.low.2) (hsw _ _ _) (fun Q' hq => he _ _ _ _ _ _ _ hlow fun h' tk kvs hd hs hk => hq _ h' tk hk ⟨_, kvs, rfl, hd, hs, I.main.code.lt.2⟩) hQ
end
end Mine

/-! HA -/
namespace Mine
set_option linter.unusedVariables false

/-- the ground on which the law's functions are walked -/
def ground (mg mb : Str → Option Value) (h₁ : Heap) (hg : h₁.Ns mainGlobals mg) (hb : h₁.Ns builtinsNs mb) (hblt : ∀ x : Str, x ≠ "__name__" → mb x = bootBuiltins x) (hc : h₁.Ns cStatics (fun _ => none)) : TopI where
  mg := mg
  mb := mb
  T := fun h => Stay h₁ h
  stable := fun h h' t k => t.trans k
  g := fun h t => hg.keeps t
  b := fun h t => hb.keeps t
  lim := fun h t => ⟨_, hc.keeps t, rfl⟩
  blt := hblt

section
variable {R : WRecords} {cl : Str → Option Addr} {P : Params} {ord : List DictEntry → List DictEntry}
theorem hasInts : ∀ {ds : List WData}, WShape.hasItems R ds .int = true → ∃ xs : List Int, ds = xs.map .int
  | [], _ => ⟨[], rfl⟩
  | d :: ds, h => by
    unfold WShape.hasItems at h
    rw [Bool.and_eq_true] at h
    obtain ⟨i, rfl⟩ := hasW_int h.1
    obtain ⟨xs, rfl⟩ := hasInts h.2
    exact ⟨i :: xs, rfl⟩
theorem lay_ints : ∀ (xs : List Int) (s : Shared), ∃ vs, layAllW R cl P ord (xs.map .int) s = some (vs, { s with toks := s.toks + xs.length }) ∧ IntsAre vs xs
  | [], s => ⟨[], rfl, .nil⟩
  | x :: xs, s => by
    obtain ⟨vs, e, h⟩ := lay_ints xs { s with toks := s.toks + 1 }
    refine ⟨.int x s.toks :: vs, ?_, .cons _ _ h⟩
    rw [List.map_cons]
    unfold layAllW
    have e1 : layW R cl P ord (.int x) s = some (.int x s.toks, { s with toks := s.toks + 1 }) := by unfold layW; rfl
    rw [e1]
    dsimp only
    rw [e]
    simp [Nat.add_comm, Nat.add_left_comm]
theorem lay_list (xs : List Int) (s : Shared) : ∃ vs, IntsAre vs xs ∧ layAllW R cl P ord [.list (xs.map .int)] s = some ([.ref s.heap.objs.size], { s with heap := s.heap.push { cls := .type "list", data := .seq vs.toArray }, toks := s.toks + xs.length }) := by
  obtain ⟨vs, e, h⟩ := lay_ints (R := R) (cl := cl) (P := P) (ord := ord) xs s
  refine ⟨vs, h, ?_⟩
  unfold layAllW
  have e1 : layW R cl P ord (.list (xs.map .int)) s = some (.ref s.heap.objs.size, { s with heap := s.heap.push { cls := .type "list", data := .seq vs.toArray }, toks := s.toks + xs.length }) := by
    unfold layW; rw [e]
  rw [e1]
  dsimp only
  unfold layAllW
  rfl
end

theorem post_true {l : OpenLaw} (args : List WData) : l.row.toRowW.claim.post args (.bool true) args = true := by
  show (WShape.has ([] : WRecords) (.bool true) .bool && WTm.holds ([] : WRecords) (.eq .res (.lit (.bool true))) { args := args, res := some (.bool true), after := args }) = true
  have h1 : WShape.has ([] : WRecords) (.bool true) .bool = true := by simp [WShape.has, WShape.arms]
  have h2 : WTm.holds ([] : WRecords) (.eq .res (.lit (.bool true))) { args := args, res := some (.bool true), after := args } = true := by
    unfold WTm.holds
    have hs : same (WData.bool true) (.bool true) = true := by decide +kernel
    simp [WTm.value, hs]
  exact Bool.and_eq_true_iff.mpr ⟨h1, h2⟩

/-- what a law over one list of whole numbers is asked of -/
theorem pre_ints {l : OpenLaw} (hm : l.most = some 63) (hbd : l.bound = none) {args : List WData} (h : l.row.toRowW.claim.pre args = true) : ∃ xs : List Int, args = [.list (xs.map .int)] ∧ xs.length ≤ 63 := by
  obtain ⟨h1, h2⟩ := pre_splitW (r := l.row.toRowW) h
  obtain ⟨d, r, rfl, hd, hr⟩ := hasAllW_cons (show WShape.hasAll ([] : WRecords) args [.list .int] = true from h1)
  obtain rfl := hasAllW_nil hr
  obtain ⟨ds, rfl, hi⟩ := hasW_list hd
  obtain ⟨xs, rfl⟩ := hasInts hi
  refine ⟨xs, rfl, ?_⟩
  have h2 : WTm.holds ([] : WRecords) l.pre { args := [.list (xs.map .int)] } = true := h2
  unfold OpenLaw.pre at h2
  rw [hm, hbd] at h2
  unfold WTm.holds at h2
  simp only [WTm.value] at h2
  refine Nat.le_of_not_lt fun hlt => ?_
  have hless : ∀ a b : Int, less? (.int a) (.int b) = some (decide (a < b)) := fun a b => by unfold less? Num.less?; rfl
  have hd : decide ((63 : Int) < (xs.length : Int)) = true := by simp; omega
  simp [hless] at h2
  rw [hd] at h2
  simp at h2

theorem law_open {l : OpenLaw} {G : World → Addr → Facts} {i : Nat}
    (hdef : l.prog.theDef l.name = some ((dAt l.prog i).params, (dAt l.prog i).body, (dAt l.prog i).scope)) (hname : (dAt l.prog i).name = l.name)
    (hkw : kwWritten? (dAt l.prog i).params.kwonlyargs (dAt l.prog i).params.kw_defaults = some []) (hdf : (dAt l.prog i).params.defaults = [])
    (hG : ∀ w Pl, (G w Pl).lookup l.name = some (SFn Pl (dAt l.prog i))) (hw : l.writes = false)
    (hb : l.prog.bare) (ho : opensWell l.prog = true)
    (left : ∀ w, (∃ s, AfterRun (opening l.prog) w s) ∧ ∀ s, AfterRun (opening l.prog) w s → fenceModules? l.prog s = some s ∧ s.gens = #[] ∧ ∃ s₁, TopRan l.prog w s s₁ ∧ Left w (G w) s₁)
    (hpre : ∀ args, l.row.toRowW.claim.pre args = true → ∃ xs : List Int, args = [.list (xs.map .int)] ∧ xs.length ≤ 63) (hprom : l.row.toRowW.promised)
    (walk : ∀ (w : World) (s₁ : Shared) (mb mg : Str → Option Value) (Pl : Addr) (hg : s₁.heap.Ns mainGlobals mg) (hb : s₁.heap.Ns builtinsNs mb) (hblt : ∀ x : Str, x ≠ "__name__" → mb x = bootBuiltins x) (hc : s₁.heap.Ns cStatics (fun _ => none)),
      (∀ n S, (G w Pl).lookup n = some S → ∃ v, mg n = some v ∧ S s₁.heap v) → (∀ x, (∀ p ∈ G w Pl, p.1 ≠ x) → x ∉ bootMainNames → mg x = none) → sysModules < Pl → ∀ (a : Addr), mg l.name = some (.ref a) → ∀ xs : List Int, xs.length ≤ 63 →
      Ca l.prog w (ground mg mb s₁.heap hg hb hblt hc) callerA (.ref a) [.list (xs.map .int)] (.bool true)) : l.row.toRowW.claim.HoldsOpenBy (callStub l.row.name) (if l.row.pinned then [l.row.name] else []) l.row.keeps l.row.writes := by
  refine ⟨⟨hb, ho, rfl⟩, hprom.witness, fun w => ⟨(left w).1, fun s hs => ?_⟩⟩
  obtain ⟨hf, hg0, s₁, hT, hL⟩ := (left w).2 s hs
  obtain ⟨mb, mg, Pl, hg, hbl, hblt, hc, hfacts, hothers, hlow⟩ := hL.rest
  refine ⟨s, hf, hg0, s₁, hT, fun n hn => ?_, fun x hx => (by cases hx), fun x hx => (by cases hx), ?_⟩
  · obtain rfl : n = l.name := by
      have : (if l.row.pinned then [l.row.name] else []) = [l.name] := rfl
      rw [this] at hn
      simpa using hn
    obtain ⟨v, hv, a, o, pm, cd, doc, rfl, hao, hd, hcr, _⟩ := hfacts _ _ (hG w Pl)
    refine ⟨a, o, _, _, _, _, (globalOf_ns hg _).trans hv, hao, hd, hdef, hname, hname, rfl, rfl, rfl, rfl, rfl, rfl, .inl ⟨hdf, rfl⟩, [], hkw, .inl ⟨rfl, rfl⟩⟩
  · refine ClaimW.callFrom_of_specN (c := l.row.toRowW.claim) (tree := fun vs => do match ← nsGet mainNs l.name with
      | some f => do ret (← call f vs)
      | none => unsupported "claim.caller:no-such-global") hL.asleep (by rw [hL.gens]; simp [leftWithCleanup]) fun args hp hlay ord hord => ?_
    obtain ⟨xs, rfl, hlen⟩ := hpre args hp
    obtain ⟨vs, hi, hlaid⟩ := lay_list (R := l.row.toRowW.claim.records) (cl := classAt s₁.heap) (P := w.params) (ord := ord) xs s₁
    have keeps := layAllW_keeps _ _ _ hlaid
    have hal := layAllW_rest _ _ _ hlaid
    obtain ⟨as, hrd, hin, hold⟩ := reads_layAllW hord _ _ _ hlaid hlay _ (fun _ _ e => e)
    obtain ⟨v, hv, a, o, pm, cd, doc, rfl, hao, hd, hcr, _⟩ := hfacts _ _ (hG w Pl)
    refine ⟨_, _, hlaid, ?_⟩
    have C := walk w s₁ mb mg Pl hg hbl hblt hc hfacts hothers hlow a hv xs hlen
    refine wpAny_bind (wpAny_nsGet (hg.keeps keeps) ?_)
    rw [hv]
    refine wpAny_bind (C.run (fun _ => False) { s₁ with heap := s₁.heap.push { cls := .type "list", data := .seq vs.toArray }, toks := s₁.toks + xs.length, gens := #[] } [.ref s₁.heap.objs.size] _ _ keeps (fun _ h => h.elim)
      (.cons (rep_new_list (X := fun _ => False) (fun _ h => h.elim) (repL_ints hi)) .nil) fun v s' k r => ?_)
    have hvb : v = .bool true := by unfold Rep at r; exact r
    subst hvb
    refine wpAny_pure ⟨_, rfl, ?_⟩
    obtain ⟨h', tk', rfl, kk⟩ := k
    have hident := ident_freeW (r := l.row.toRowW) rfl rfl rfl
    have z := GoodW.endsN (c := l.row.toRowW.claim) (s₀ := s₁) (args := [.list (xs.map .int)]) (vs := [.ref s₁.heap.objs.size]) (as := as) (r := .ok (.ret (.bool true)))
      (s' := { s₁ with heap := h', toks := tk', gens := #[] }) rfl rfl hident hrd hold hal.2.2.1 ⟨.inl ⟨.bool true, .bool true, [], rfl, fun _ => rfl, .bool true, post_true _, fun _ => ⟨.nil, fun a ha => by cases ha⟩⟩, kk, rfl, rfl⟩
    exact ⟨z.1, z.2.1, z.2.2, fun hwr => by
      have : l.row.writes = false := hw
      rw [this] at hwr; cases hwr⟩
end Mine

/-! H9 -/
namespace Mine
set_option linter.unusedVariables false
set_option maxRecDepth 100000
set_option Elab.async false
abbrev Pg : Program := PySem.Challenge.pw_rw0092_01
def hidden : List Int := [173, 847, 6150, 6155, 6156, 6157, 8203, 8204, 8205, 8288, 65279] ++ (List.range 16).map fun (i : Nat) => (65024 : Int) + i
def topG (w : World) (Pl : Addr) : Facts := [("law", SFn Pl (dAt Pg 17)), ("_law_orders", SFn Pl (dAt Pg 16)), ("_law_number", SFn Pl (dAt Pg 15)), ("_law_prepared", SFn Pl (dAt Pg 14)), ("_law_meant", SFn Pl (dAt Pg 13)), ("_law_spelled", SFn Pl (dAt Pg 12)), ("_law_drawn", SFn Pl (dAt Pg 11)), ("__name__", SStr "law_rw0092_01"), ("map_table_b3", SFn Pl (dAt Pg 9)), ("b3_exceptions", SDict Pg w Pl (tabAt Pg 8)), ("in_table_b1", SFn Pl (dAt Pg 7)), ("b1_set", SSet Pg w Pl (memb hidden)), ("__name__", SStr "cpy313.stringprep"), ("_ellipsis_match", SFn Pl (dAt Pg 4)), ("ELLIPSIS_MARKER", SStr "..."), ("__name__", SStr "cpy313.doctest"), ("_parse_varint", SFn Pl (dAt Pg 1)), ("__name__", SStr "cpy313.dis")]
def topP : List (Nat × Nat) := [((dAt Pg 1).pos.line, (dAt Pg 1).pos.col), ((dAt Pg 4).pos.line, (dAt Pg 4).pos.col), ((dAt Pg 7).pos.line, (dAt Pg 7).pos.col), ((dAt Pg 9).pos.line, (dAt Pg 9).pos.col), ((dAt Pg 11).pos.line, (dAt Pg 11).pos.col), ((dAt Pg 12).pos.line, (dAt Pg 12).pos.col), ((dAt Pg 13).pos.line, (dAt Pg 13).pos.col), ((dAt Pg 14).pos.line, (dAt Pg 14).pos.col), ((dAt Pg 15).pos.line, (dAt Pg 15).pos.col), ((dAt Pg 16).pos.line, (dAt Pg 16).pos.col), ((dAt Pg 17).pos.line, (dAt Pg 17).pos.col)]
def topNames : List Str := ["law", "_law_orders", "_law_number", "_law_prepared", "_law_meant", "_law_spelled", "_law_drawn", "__name__", "map_table_b3", "b3_exceptions", "in_table_b1", "b1_set", "__name__", "_ellipsis_match", "ELLIPSIS_MARKER", "__name__", "_parse_varint", "__name__"]
theorem notIn {G : Facts} {names : List Str} {x : Str} (h : G.map (·.1) = names) (hx : names.all (· != x) = true) : ∀ p ∈ G, p.1 ≠ x := fun p hp e => by
  have := List.all_eq_true.mp hx p.1 (by rw [← h]; exact List.mem_map.mpr ⟨p, hp, rfl⟩)
  rw [e] at this; simp at this
theorem st0 : ∃ np k p₂ pos, Pg.main.body[0]? = some (.Assign [.Name "__name__" np] (.Constant (.str "cpy313.dis") k p₂) pos) := ⟨_, _, _, _, rfl⟩
theorem st1 : Pg.main.body[1]? = some (dAt Pg 1).stmt := rfl
theorem st2 : ∃ np k p₂ pos, Pg.main.body[2]? = some (.Assign [.Name "__name__" np] (.Constant (.str "cpy313.doctest") k p₂) pos) := ⟨_, _, _, _, rfl⟩
theorem st3 : ∃ np k p₂ pos, Pg.main.body[3]? = some (.Assign [.Name "ELLIPSIS_MARKER" np] (.Constant (.str "...") k p₂) pos) := ⟨_, _, _, _, rfl⟩
theorem st4 : Pg.main.body[4]? = some (dAt Pg 4).stmt := rfl
theorem st5 : ∃ np k p₂ pos, Pg.main.body[5]? = some (.Assign [.Name "__name__" np] (.Constant (.str "cpy313.stringprep") k p₂) pos) := ⟨_, _, _, _, rfl⟩
theorem st6 : ∃ np pos p1 p2 p3 p4 p5 p6 p7 p8 p9 p10 i1 i2 es, Pg.main.body[6]? = some (.Assign [.Name "b1_set" np] (.Call (.Name "set" p1) [.BinOp (.List es p2) .Add (.Call (.Name "list" p3) [.Call (.Name "range" p4) [.Constant (.int 65024) i1 p5, .Constant (.int 65040) i2 p6] [] p7] [] p8) p9] [] p10) pos) ∧ CIs es [173, 847, 6150, 6155, 6156, 6157, 8203, 8204, 8205, 8288, 65279] := ⟨_, _, _, _, _, _, _, _, _, _, _, _, _, _, _, rfl, by repeat (first | exact .nil | refine .cons ?_)⟩
theorem st7 : Pg.main.body[7]? = some (dAt Pg 7).stmt := rfl
theorem st9 : Pg.main.body[9]? = some (dAt Pg 9).stmt := rfl
theorem st10 : ∃ np k p₂ pos, Pg.main.body[10]? = some (.Assign [.Name "__name__" np] (.Constant (.str "law_rw0092_01") k p₂) pos) := ⟨_, _, _, _, rfl⟩
theorem st11 : Pg.main.body[11]? = some (dAt Pg 11).stmt := rfl
theorem st12 : Pg.main.body[12]? = some (dAt Pg 12).stmt := rfl
theorem st13 : Pg.main.body[13]? = some (dAt Pg 13).stmt := rfl
theorem st14 : Pg.main.body[14]? = some (dAt Pg 14).stmt := rfl
theorem st15 : Pg.main.body[15]? = some (dAt Pg 15).stmt := rfl
theorem st16 : Pg.main.body[16]? = some (dAt Pg 16).stmt := rfl
theorem st17 : Pg.main.body[17]? = some (dAt Pg 17).stmt := rfl
theorem plain1 : (dAt Pg 1).Plain Pg := ⟨fun _ => rfl, by decide +kernel, rfl, rfl, by decide +kernel⟩
theorem plain4 : (dAt Pg 4).Plain Pg := ⟨fun _ => rfl, by decide +kernel, rfl, rfl, by decide +kernel⟩
theorem plain7 : (dAt Pg 7).Plain Pg := ⟨fun _ => rfl, by decide +kernel, rfl, rfl, by decide +kernel⟩
def keysAt (p : Program) (i : Nat) : List (Option Expr) := match p.main.body[i]? with
  | some (.Assign _ (.Dict ks _ _) _) => ks
  | _ => []
def valsAt (p : Program) (i : Nat) : List Expr := match p.main.body[i]? with
  | some (.Assign _ (.Dict _ vs _) _) => vs
  | _ => []
theorem stTab : ∃ np p₂ pos, Pg.main.body[8]? = some (.Assign [.Name "b3_exceptions" np] (.Dict (keysAt Pg 8) (valsAt Pg 8) p₂) pos) := ⟨_, _, _, rfl⟩
theorem swTab {c F : Addr} {p₂ np : Pos} {n : Nat} : swapsWith (.Dict (keysAt Pg 8) (valsAt Pg 8) p₂) (some (.Name "b3_exceptions" np)) n (mainEnv Pg c F) = pure false := rfl
theorem tab_some : (constsOf (keysAt Pg 8) (valsAt Pg 8)).isSome = true := by decide +kernel
theorem tab_consts : constsOf (keysAt Pg 8) (valsAt Pg 8) = some (tabAt Pg 8) := by
  have h := tab_some
  have e : tabAt Pg 8 = (constsOf (keysAt Pg 8) (valsAt Pg 8)).getD [] := rfl
  rw [e]
  cases hc : constsOf (keysAt Pg 8) (valsAt Pg 8) with
  | none => rw [hc] at h; cases h
  | some l => rfl
theorem tab_asc : ascB ((tabAt Pg 8).map (·.1)) = true := by decide +kernel
theorem tab_nodup : ((tabAt Pg 8).map (·.1)).Nodup := asc_nodup tab_asc
theorem tab_ne : tabAt Pg 8 ≠ [] := by decide +kernel
theorem tab_len : (tabAt Pg 8).length ≤ sizeLine := by decide +kernel
theorem plain9 : (dAt Pg 9).Plain Pg := ⟨fun _ => rfl, by decide +kernel, rfl, rfl, by decide +kernel⟩
theorem plain11 : (dAt Pg 11).Plain Pg := ⟨fun _ => rfl, by decide +kernel, rfl, rfl, by decide +kernel⟩
theorem plain12 : (dAt Pg 12).Plain Pg := ⟨fun _ => rfl, by decide +kernel, rfl, rfl, by decide +kernel⟩
theorem plain13 : (dAt Pg 13).Plain Pg := ⟨fun _ => rfl, by decide +kernel, rfl, rfl, by decide +kernel⟩
theorem plain14 : (dAt Pg 14).Plain Pg := ⟨fun _ => rfl, by decide +kernel, rfl, rfl, by decide +kernel⟩
theorem plain15 : (dAt Pg 15).Plain Pg := ⟨fun _ => rfl, by decide +kernel, rfl, rfl, by decide +kernel⟩
theorem plain16 : (dAt Pg 16).Plain Pg := ⟨fun _ => rfl, by decide +kernel, rfl, rfl, by decide +kernel⟩
theorem plain17 : (dAt Pg 17).Plain Pg := ⟨fun _ => rfl, by decide +kernel, rfl, rfl, by decide +kernel⟩
set_option maxHeartbeats 1000000 in
theorem top_run (w : World) (A : Around) (c Pl F : Addr) (s : Shared) (mb mg : Str → Option Value) (Q : Flow → Shared → Prop) (hA : A.handled = none) (I0 : TIv s.heap mg c Pl [] [] mg [] s.heap) (hB : s.heap.Ns builtinsNs mb) (hblt : ∀ x : Str, x ≠ "__name__" → mb x = bootBuiltins x)
    (hmg : ∀ x, x ∉ bootMainNames → mg x = none) (hbP : builtinsNs ≠ Pl) (hsm : sysModules < s.heap.objs.size)
    (hQ : ∀ h' tk mg' l', TIv s.heap mg c Pl (topG w Pl) topP mg' l' h' → Q .next { s with heap := h', toks := tk }) : wpAny (model Pg w) A (execs Pg.main.body (mainEnv Pg c F)) Q (fun _ _ => False) s := by
  generalize hb : Pg.main.body = b
  show wpAny _ _ (execs (b.drop 0) _) _ _ _
  have hlow : ∀ {G : Facts} {ps : List (Nat × Nat)} {mg' : Str → Option Value} {l : List (Pos × Addr)} {h : Heap}, TIv s.heap mg c Pl G ps mg' l h → sysModules < h.objs.size := fun I => Nat.lt_trans (by decide) (Nat.lt_trans I.main.low.2 I.main.code.lt.2)
  obtain ⟨np, k, p₂, pos, hst⟩ := st0
  rw [hb] at hst
  refine exec_drop (i := 0) hst (top_str (n := "__name__") (np := np) (k := k) (p₂ := p₂) (pos := pos) I0 rfl rfl (by decide) (fun v0 h0 tk0 I1 => ?_) rfl)
  clear hst
  dsimp only
  obtain ⟨mg1, I1⟩ : ∃ mg1, TIv s.heap mg c Pl _ _ mg1 _ h0 := ⟨_, I1⟩
  have hst := st1
  rw [hb] at hst
  refine exec_drop (i := 1) hst (top_def (d := dAt Pg 1) I1 rfl rfl plain1 (by decide +kernel) (fun v1 c1 h1 tk1 I2 => ?_))
  clear hst
  dsimp only
  obtain ⟨mg2, I2⟩ : ∃ mg2, TIv s.heap mg c Pl _ _ mg2 _ h1 := ⟨_, I2⟩
  obtain ⟨np, k, p₂, pos, hst⟩ := st2
  rw [hb] at hst
  refine exec_drop (i := 2) hst (top_str (n := "__name__") (np := np) (k := k) (p₂ := p₂) (pos := pos) I2 rfl rfl (by decide) (fun v2 h2 tk2 I3 => ?_) rfl)
  clear hst
  dsimp only
  obtain ⟨mg3, I3⟩ : ∃ mg3, TIv s.heap mg c Pl _ _ mg3 _ h2 := ⟨_, I3⟩
  obtain ⟨np, k, p₂, pos, hst⟩ := st3
  rw [hb] at hst
  refine exec_drop (i := 3) hst (top_str (n := "ELLIPSIS_MARKER") (np := np) (k := k) (p₂ := p₂) (pos := pos) I3 rfl rfl (by decide) (fun v3 h3 tk3 I4 => ?_) rfl)
  clear hst
  dsimp only
  obtain ⟨mg4, I4⟩ : ∃ mg4, TIv s.heap mg c Pl _ _ mg4 _ h3 := ⟨_, I4⟩
  have hst := st4
  rw [hb] at hst
  refine exec_drop (i := 4) hst (top_def (d := dAt Pg 4) I4 rfl rfl plain4 (by decide +kernel) (fun v4 c4 h4 tk4 I5 => ?_))
  clear hst
  dsimp only
  obtain ⟨mg5, I5⟩ : ∃ mg5, TIv s.heap mg c Pl _ _ mg5 _ h4 := ⟨_, I5⟩
  obtain ⟨np, k, p₂, pos, hst⟩ := st5
  rw [hb] at hst
  refine exec_drop (i := 5) hst (top_str (n := "__name__") (np := np) (k := k) (p₂ := p₂) (pos := pos) I5 rfl rfl (by decide) (fun v5 h5 tk5 I6 => ?_) rfl)
  clear hst
  dsimp only
  obtain ⟨mg6, I6⟩ : ∃ mg6, TIv s.heap mg c Pl _ _ mg6 _ h5 := ⟨_, I6⟩
  obtain ⟨np, pos, p1, p2, p3, p4, p5, p6, p7, p8, p9, p10, i1, i2, es, hst, hci⟩ := st6
  rw [hb] at hst
  refine exec_drop (i := 6) hst (top_set (n := "b1_set") (np := np) (pos := pos) (ks := [173, 847, 6150, 6155, 6156, 6157, 8203, 8204, 8205, 8288, 65279]) (es := es) I6 rfl rfl (by decide) (hB.at fun o e => I6.keep _ o hbP (by decide) e) hblt hA ((I6.others "set" (notIn (names := ["__name__", "_ellipsis_match", "ELLIPSIS_MARKER", "__name__", "_parse_varint", "__name__"]) rfl (by decide))).trans (hmg "set" (by decide))) ((I6.others "list" (notIn (names := ["__name__", "_ellipsis_match", "ELLIPSIS_MARKER", "__name__", "_parse_varint", "__name__"]) rfl (by decide))).trans (hmg "list" (by decide))) ((I6.others "range" (notIn (names := ["__name__", "_ellipsis_match", "ELLIPSIS_MARKER", "__name__", "_parse_varint", "__name__"]) rfl (by decide))).trans (hmg "range" (by decide)))
    hci (k := 16) (by decide) (by decide) (by decide) (by decide) (by decide) (fun v6 h6 tk6 I7 => ?_) rfl)
  clear hst
  dsimp only
  obtain ⟨mg7, I7⟩ : ∃ mg7, TIv s.heap mg c Pl _ _ mg7 _ h6 := ⟨_, I7⟩
  have hst := st7
  rw [hb] at hst
  refine exec_drop (i := 7) hst (top_def (d := dAt Pg 7) I7 rfl rfl plain7 (by decide +kernel) (fun v7 c7 h7 tk7 I8 => ?_))
  clear hst
  dsimp only
  obtain ⟨mg8, I8⟩ : ∃ mg8, TIv s.heap mg c Pl _ _ mg8 _ h7 := ⟨_, I8⟩
  obtain ⟨np, p₂, pos, hst⟩ := stTab
  obtain ⟨d, hd, hsw, he⟩ := dict_fact (keysAt Pg 8) (valsAt Pg 8) p₂ tab_consts tab_ne tab_nodup tab_len
  rw [hb, ← hd] at hst
  clear hd
  refine exec_drop (i := 8) hst (top_dict' (n := "b3_exceptions") (np := np) (pos := pos) (cs := tabAt Pg 8) I8 rfl rfl (by decide) hsw he (hlow I8) (fun v8 h8 tk8 I9 => ?_))
  clear hst
  dsimp only
  obtain ⟨mg9, I9⟩ : ∃ mg9, TIv s.heap mg c Pl _ _ mg9 _ h8 := ⟨_, I9⟩
  have hst := st9
  rw [hb] at hst
  refine exec_drop (i := 9) hst (top_def (d := dAt Pg 9) I9 rfl rfl plain9 (by decide +kernel) (fun v9 c9 h9 tk9 I10 => ?_))
  clear hst
  dsimp only
  obtain ⟨mg10, I10⟩ : ∃ mg10, TIv s.heap mg c Pl _ _ mg10 _ h9 := ⟨_, I10⟩
  obtain ⟨np, k, p₂, pos, hst⟩ := st10
  rw [hb] at hst
  refine exec_drop (i := 10) hst (top_str (n := "__name__") (np := np) (k := k) (p₂ := p₂) (pos := pos) I10 rfl rfl (by decide) (fun v10 h10 tk10 I11 => ?_) rfl)
  clear hst
  dsimp only
  obtain ⟨mg11, I11⟩ : ∃ mg11, TIv s.heap mg c Pl _ _ mg11 _ h10 := ⟨_, I11⟩
  have hst := st11
  rw [hb] at hst
  refine exec_drop (i := 11) hst (top_def (d := dAt Pg 11) I11 rfl rfl plain11 (by decide +kernel) (fun v11 c11 h11 tk11 I12 => ?_))
  clear hst
  dsimp only
  obtain ⟨mg12, I12⟩ : ∃ mg12, TIv s.heap mg c Pl _ _ mg12 _ h11 := ⟨_, I12⟩
  have hst := st12
  rw [hb] at hst
  refine exec_drop (i := 12) hst (top_def (d := dAt Pg 12) I12 rfl rfl plain12 (by decide +kernel) (fun v12 c12 h12 tk12 I13 => ?_))
  clear hst
  dsimp only
  obtain ⟨mg13, I13⟩ : ∃ mg13, TIv s.heap mg c Pl _ _ mg13 _ h12 := ⟨_, I13⟩
  have hst := st13
  rw [hb] at hst
  refine exec_drop (i := 13) hst (top_def (d := dAt Pg 13) I13 rfl rfl plain13 (by decide +kernel) (fun v13 c13 h13 tk13 I14 => ?_))
  clear hst
  dsimp only
  obtain ⟨mg14, I14⟩ : ∃ mg14, TIv s.heap mg c Pl _ _ mg14 _ h13 := ⟨_, I14⟩
  have hst := st14
  rw [hb] at hst
  refine exec_drop (i := 14) hst (top_def (d := dAt Pg 14) I14 rfl rfl plain14 (by decide +kernel) (fun v14 c14 h14 tk14 I15 => ?_))
  clear hst
  dsimp only
  obtain ⟨mg15, I15⟩ : ∃ mg15, TIv s.heap mg c Pl _ _ mg15 _ h14 := ⟨_, I15⟩
  have hst := st15
  rw [hb] at hst
  refine exec_drop (i := 15) hst (top_def (d := dAt Pg 15) I15 rfl rfl plain15 (by decide +kernel) (fun v15 c15 h15 tk15 I16 => ?_))
  clear hst
  dsimp only
  obtain ⟨mg16, I16⟩ : ∃ mg16, TIv s.heap mg c Pl _ _ mg16 _ h15 := ⟨_, I16⟩
  have hst := st16
  rw [hb] at hst
  refine exec_drop (i := 16) hst (top_def (d := dAt Pg 16) I16 rfl rfl plain16 (by decide +kernel) (fun v16 c16 h16 tk16 I17 => ?_))
  clear hst
  dsimp only
  obtain ⟨mg17, I17⟩ : ∃ mg17, TIv s.heap mg c Pl _ _ mg17 _ h16 := ⟨_, I17⟩
  have hst := st17
  rw [hb] at hst
  refine exec_drop (i := 17) hst (top_def (d := dAt Pg 17) I17 rfl rfl plain17 (by decide +kernel) (fun v17 c17 h17 tk17 I18 => ?_))
  clear hst
  dsimp only
  refine exec_end (by rw [← hb]; rfl) ?_
  exact hQ _ _ _ _ I18

theorem top_left (w : World) : (∃ s, AfterRun (opening Pg) w s) ∧ ∀ s, AfterRun (opening Pg) w s → fenceModules? Pg s = some s ∧ s.gens = #[] ∧ ∃ s₁, TopRan Pg w s s₁ ∧ Left w (topG w) s₁ := by
  obtain ⟨h1, h2⟩ := booted (p := Pg) (w := w) rfl
  refine ⟨h1, fun s hs => ?_⟩
  obtain ⟨hb, hz⟩ := h2 s hs
  exact ⟨rfl, hb.1, top_ran hb hz rfl rfl rfl (fun Pl => by rw [show (topG w Pl).map (·.1) = topNames from rfl]; decide +kernel) (top_run w)⟩
end Mine

/-! W1 -/
namespace Mine
set_option linter.unusedVariables false
set_option maxRecDepth 100000

/-- a def as the ground bears it -/
structure FnAt (τ : TopI) (p : Program) (i : Nat) (n : Str) (a : Addr) : Prop where
  mg : τ.mg n = some (.ref a)
  fn : FnIs τ a (dAt p i).name (dAt p i).params (dAt p i).body (dAt p i).scope

section
variable {w : World} {τ : TopI} {A : Around} {k : Nat}
def builtinNames : List Str := ["ord", "chr", "len", "range", "list", "set", "enumerate", "zip", "min", "max", "sum", "iter", "next", "divmod"]
abbrev NoB (τ : TopI) : Prop := ∀ x ∈ builtinNames, τ.mg x = none

theorem c_in {aI aS : Addr} {c : Nat} (hR : Room (k + 1) A) (hn : NoB τ) (hI : FnAt τ Pg 7 "in_table_b1" aI) (hS : τ.mg "b1_set" = some (.ref aS)) (fS : ∀ h, τ.T h → ∃ n, h.SetOf (intKind Pg w) aS (memb hidden) n) :
    Ca Pg w τ A (.ref aI) [.str ⟨#[c]⟩] (.bool (memb hidden c)) := by
  refine ca_def hR hI.fn ["code"] rfl (fun pm cd doc vs hv => ?_) (by decide) (by decide +kernel) (by decide +kernel) (fun A' L cd cells hR' => ?_)
  · obtain ⟨v, rfl⟩ : ∃ v, vs = [v] := by
      cases vs with
      | nil => cases hv
      | cons v r => cases r with
        | nil => exact ⟨v, rfl⟩
        | cons _ _ => cases hv
    rfl
  · refine ex_ret (exs_return (ev_in_set (ev_builtin (evl_cons (ev_local rfl rfl) evl_nil) ca_ord rfl (hn _ (by decide)) (by decide +kernel) (by decide)) rfl hS fS))
end
end Mine

/-! V25 -/
namespace Mine
set_option linter.unusedVariables false

theorem vs1 {vs : List Value} (h : vs.length = 1) : ∃ v, vs = [v] := by
  cases vs with
  | nil => cases h
  | cons v r => cases r with
    | nil => exact ⟨v, rfl⟩
    | cons _ _ => cases h
theorem vs2 {vs : List Value} (h : vs.length = 2) : ∃ v u, vs = [v, u] := by
  cases vs with
  | nil => cases h
  | cons v r => cases r with
    | nil => cases h
    | cons u r => cases r with
      | nil => exact ⟨v, u, rfl⟩
      | cons _ _ => cases h

/-- what is known is known -/
inductive Sub : List (Str × PV) → List (Str × PV) → Prop
  | nil {ρ} : Sub [] ρ
  | cons {x p ρ ρ'} : ρ.lookup x = some p → Sub ρ' ρ → Sub ((x, p) :: ρ') ρ
theorem Sub.at {ρ ρ' : List (Str × PV)} (h : Sub ρ' ρ) : ∀ y q, ρ'.lookup y = some q → ρ.lookup y = some q := by
  induction h with
  | nil => intro y q e; cases e
  | @cons x p ρ ρ' hx _ ih =>
    intro y q e
    rw [List.lookup_cons] at e
    cases hyx : y == x with
    | true => rw [hyx] at e; cases e; rw [beq_iff_eq] at hyx; subst hyx; exact hx
    | false => rw [hyx] at e; exact ih y q e

section
variable {prog : Program} {w : World} {τ : TopI} {A : Around} {own : List Str} {env : Env} {ρ : List (Str × PV)}

theorem ex_sub {ss : List Stmt} {ρ₁ ρ₂ : List (Str × PV)} (h : Ex prog w τ A own env ρ ss (.next ρ₁)) (hw : Sub ρ₂ ρ₁) : Ex prog w τ A own env ρ ss (.next ρ₂) := ex_weak h hw.at
theorem tr_not {e : Expr} {pos : Pos} {b : Bool} (h : Tr prog w τ A env ρ e b) : Tr prog w τ A env ρ (.UnaryOp .Not e pos) (!b) := .mk fun X h₀ own s Q E F hQ =>
  wpAny_isTrue_Not (h.run X h₀ own s _ E F fun s' k => hQ s' k)
theorem tr_eq {e : Expr} {b b' : Bool} (h : Tr prog w τ A env ρ e b) (hb : b = b') : Tr prog w τ A env ρ e b' := hb ▸ h
theorem ev_eq {e : Expr} {p p' : PV} (h : Ev prog w τ A env ρ e p) (hb : p = p') : Ev prog w τ A env ρ e p' := hb ▸ h

theorem and_cons {M : Model} {pos : Pos} {t u : Sem Value} {rest : List (Sem Value)} {Q : Value → Shared → Prop} {E : Value → Shared → Prop} {s : Shared}
    (h : wpAny M A t (fun v s₁ => ∃ x, v = .bool x ∧ (x = false → Q (.bool false) s₁) ∧ (x = true → wpAny M A (boolOp pos .And (u :: rest)) Q E s₁)) E s) : wpAny M A (boolOp pos .And (t :: u :: rest)) Q E s := by
  unfold boolOp
  refine wpAny_bind (wpAny_mono h (fun v s₁ ⟨x, e, h1, h2⟩ => wpAny_bind (wpAny_standAt (wpAny_bind (wpAny_holding ?_)))) fun _ _ e => e)
  subst e
  refine wpAny_truthy_bool ?_
  cases x with
  | false => exact wpAny_pure (h1 rfl)
  | true => exact h2 rfl
theorem and_one {M : Model} {pos : Pos} {t : Sem Value} {Q : Value → Shared → Prop} {E : Value → Shared → Prop} {s : Shared} (h : wpAny M A t Q E s) : wpAny M A (boolOp pos .And [t]) Q E s := by
  unfold boolOp; exact h

theorem ev_and2 {a b : Expr} {pos : Pos} {x y : Bool} (ha : Ev prog w τ A env ρ a (.bool x)) (hb : x = true → Ev prog w τ A env ρ b (.bool y)) : Ev prog w τ A env ρ (.BoolOp .And [a, b] pos) (.bool (x && y)) := by
  refine .mk fun X h₀ own s Q E F hQ => ?_
  rw [PySem.arm_eval_BoolOp]
  refine and_cons (ha.run X h₀ own s _ E F fun v s₁ k₁ r₁ => ⟨x, r₁.bool, fun h => ?_, fun h => and_one ((hb h).run X h₀ own s₁ _ E (F.fk k₁) fun v s₂ k₂ r₂ => ?_)⟩)
  · subst h; exact hQ _ _ k₁ rep_bool
  · subst h; exact hQ _ _ (ktrans k₁ k₂) r₂
theorem ev_and3 {a b c : Expr} {pos : Pos} {x y z : Bool} (ha : Ev prog w τ A env ρ a (.bool x)) (hb : x = true → Ev prog w τ A env ρ b (.bool y)) (hc : x = true → y = true → Ev prog w τ A env ρ c (.bool z)) : Ev prog w τ A env ρ (.BoolOp .And [a, b, c] pos) (.bool (x && (y && z))) := by
  refine .mk fun X h₀ own s Q E F hQ => ?_
  rw [PySem.arm_eval_BoolOp]
  refine and_cons (ha.run X h₀ own s _ E F fun v s₁ k₁ r₁ => ⟨x, r₁.bool, fun h => ?_, fun h => and_cons ((hb h).run X h₀ own s₁ _ E (F.fk k₁) fun v s₂ k₂ r₂ => ⟨y, r₂.bool, fun h' => ?_, fun h' => and_one ((hc h h').run X h₀ own s₂ _ E (F.fk (ktrans k₁ k₂)) fun v s₃ k₃ r₃ => ?_)⟩)⟩)
  · subst h; exact hQ _ _ k₁ rep_bool
  · subst h; subst h'; exact hQ _ _ (ktrans k₁ k₂) rep_bool
  · subst h; subst h'; exact hQ _ _ (ktrans (ktrans k₁ k₂) k₃) r₃

theorem assign_core {M : Model} {targets : List Expr} {value : Expr} {pos : Pos} {names : Option (List Str)} {Q : Flow → Shared → Prop} {E : Value → Shared → Prop} {s : Shared}
    (hs : swapsWithSole targets value pos.line env = pure false) (hw : swappedStores targets value env = pure names)
    (h : wpAny M A (eval value env) (fun v s₁ => wpAny M A (assignStores env v names ((assignEach targets env).map (·.2))) Q E s₁) E s) : wpAny M A (exec (.Assign targets value pos) env) Q E s := by
  rw [exec_Assign_arm]
  refine wpAny_bind (wpAny_standAt ?_)
  rw [hs]
  refine wpAny_bind (wpAny_pure ?_)
  rw [if_neg (by decide)]
  refine wpAny_bind (wpAny_mono h (fun v s₁ h₁ => ?_) fun _ _ x => x)
  rw [hw]
  exact wpAny_bind (wpAny_pure h₁)

theorem swap_store {X : Addr → Prop} {h₀ : Heap} {x y : Str} {p q : PV} {v : Value} {stores : List (Value → Sem Unit)} {Q : Flow → Shared → Prop} {E : Value → Shared → Prop} {s : Shared} (hA : A.handled = none) (F : FI X τ h₀ own env ρ s.heap) (r : Rep X s.heap (.tup [p, q]) v) (hx : Sto own env x) (hy : Sto own env y)
    (hQ : ∀ s', FK own env s s' → FI X τ h₀ own env ((x, p) :: (y, q) :: ρ) s'.heap → Q .next s') : wpAny (model prog w) A (assignStores env v (some [x, y]) stores) Q E s := by
  obtain ⟨T, vs, rfl, ⟨hT, _⟩, hr⟩ := r.tup
  unfold RepL at hr
  obtain ⟨v1, vs, rfl, h1, hr⟩ := hr
  unfold RepL at hr
  obtain ⟨v2, vs, rfl, h2, hr⟩ := hr
  unfold RepL at hr; subst hr
  unfold assignStores
  refine wpAny_bind (wpAny_rule ?_)
  refine wpAny_bind (wpAny_unpackItems_tuple (items := #[v1, v2]) hA hT fun h' hx' => ?_)
  have kk : Stay s.heap h' := fun b o e => hx' b o (Nat.ne_of_lt (Heap.lt_size e)) e
  have F₁ := F.stay kk
  show wpAny _ _ (assignInOrder [bindName env y, bindName env x] [v2, v1] >>= _) _ _ _
  refine wpAny_bind (wpAny_assignInOrder_more (wpAny_bindName (store_ (s := { s with heap := h' }) F₁ hy (h2.stay kk) fun s₂ k₂ F₂ => ?_)))
  refine wpAny_assignInOrder_more (wpAny_bindName (store_ F₂ hx ((h1.stay kk).stayS (F₁.fkS k₂) _ _) fun s₃ k₃ F₃ => wpAny_assignInOrder_none (wpAny_pure (hQ s₃ ?_ F₃))))
  exact fk_trans (fk_keeps ⟨h', s.toks, rfl, kk⟩) (fk_trans k₂ k₃)

/-- two local names of one line: the second is stored first -/
theorem exs_swap2 {targets : List Expr} {x y : Str} {pos : Pos} {value : Expr} {p q : PV} (hA : A.handled = none) (hv : Ev prog w τ A env ρ value (.tup [p, q])) (hx : Sto own env x) (hy : Sto own env y)
    (hs : swapsWithSole targets value pos.line env = pure false) (hw : swappedStores targets value env = pure (some [x, y])) :
    ExS prog w τ A own env ρ (.Assign targets value pos) (.next ((x, p) :: (y, q) :: ρ)) := .mk fun X h₀ s Q E F hQ =>
  assign_core hs hw (hv.run X h₀ own s _ E F fun v s₁ k₁ r₁ => swap_store hA (F.fk k₁) r₁ hx hy fun s₂ k₂ F₂ => hQ s₂ (fk_trans (fk_keeps k₁) k₂) F₂)
end
end Mine

/-! W2 -/
namespace Mine
set_option linter.unusedVariables false
set_option maxRecDepth 100000

section
variable {w : World} {τ : TopI} {A : Around} {k : Nat}

/-- what `map_table_b3` answers -/
def mapb3 (c : Nat) : Str := match (tabAt Pg 8).lookup (c : Int) with
  | some x => x
  | none => Txt.lower ⟨#[c]⟩

theorem c_map {aM aT : Addr} {c : Nat} (hR : Room (k + 1) A) (hn : NoB τ) (hM : FnAt τ Pg 9 "map_table_b3" aM) (hT : τ.mg "b3_exceptions" = some (.ref aT)) (hlow : (aT == sysModules) = false) (fT : ∀ h, τ.T h → ∃ kvs, h.DictOf (intKind Pg w) aT kvs ∧ Sts kvs (tabAt Pg 8)) :
    Ca Pg w τ A (.ref aM) [.str ⟨#[c]⟩] (.str (mapb3 c)) := by
  refine ca_def hR hM.fn ["code"] rfl (fun pm cd doc vs hv => ?_) (by decide) (by decide +kernel) (by decide +kernel) (fun A' L cd cells hR' => ?_)
  · obtain ⟨v, rfl⟩ := vs1 hv
    rfl
  · refine ex_cons (exs_assign (ev_tab_get (k := c) (ev_builtin (evl_cons (ev_local rfl rfl) evl_nil) ca_ord rfl (hn _ (by decide)) (by decide +kernel) (by decide)) rfl hT hlow fT) (.inl rfl)) ?_
    unfold mapb3 tabPV
    cases hc : (tabAt Pg 8).lookup (c : Int) with
    | some x =>
      exact ex_ret (exs_if (b := true) (tr_cmp (ev_local rfl rfl) ev_none (co_isnot_none rfl rfl)) (fun _ => ex_ret (exs_return (ev_local rfl rfl))) (fun h => by cases h))
    | none =>
      refine ex_cons (exs_if (b := false) (o := .next _) (tr_cmp (ev_local rfl rfl) ev_none (co_isnot_none rfl rfl)) (fun h => by cases h) (fun _ => ex_nil)) ?_
      exact ex_ret (exs_return (ev_meth0 (ev_local rfl rfl) (ca_lower (Nat.le_of_ble_eq_true rfl)) (str_is _) PySem.F.plainAttrs_str PySem.F.slot_str_lower PySem.F.type_str_lower))
end
end Mine

/-! W3 -/
namespace Mine
set_option linter.unusedVariables false
set_option maxRecDepth 100000

section
variable {prog : Program} {w : World} {τ : TopI} {A : Around} {env : Env} {ρ : List (Str × PV)}
theorem evl_ints {es : List Expr} {ks : List Int} (h : CIs es ks) : EvL prog w τ A env ρ es (ks.map .int) := .mk fun X pos h₀ own s Q E F hQ => consts_spliced (X := X) h hQ
theorem ev_ints {es : List Expr} {ks : List Int} {pos : Pos} (h : CIs es ks) (hsz : ks.length ≤ sizeLine) : Ev prog w τ A env ρ (.List es pos) (.list (ks.map .int)) := ev_list (evl_ints h) (by rw [List.length_map]; exact hsz)
theorem ints_at {ks : List Int} {i : Nat} (h : i < ks.length) : (ks.map PV.int)[i]? = some (.int (ks.getD i 0)) := by
  rw [List.getElem?_map, List.getElem?_eq_getElem h, Option.map_some, List.getD_eq_getElem?_getD, List.getElem?_eq_getElem h]; rfl
theorem getD_mem {ks : List Int} {i : Nat} (h : i < ks.length) : ks.getD i 0 ∈ ks := by
  rw [List.getD_eq_getElem?_getD, List.getElem?_eq_getElem h]; exact List.getElem_mem h
inductive CSs : List Expr → List Str → Prop
  | nil : CSs [] []
  | cons {k : Str} {i : Nat} {p : Pos} {es : List Expr} {ks : List Str} : CSs es ks → CSs (.Constant (.str k) i p :: es) (k :: ks)
theorem evl_strs {es : List Expr} {ks : List Str} (h : CSs es ks) : EvL prog w τ A env ρ es (ks.map .str) := by
  induction h with
  | nil => exact evl_nil
  | cons _ ih => exact evl_cons ev_str ih
theorem ev_strs {es : List Expr} {ks : List Str} {pos : Pos} (h : CSs es ks) (hsz : ks.length ≤ sizeLine) : Ev prog w τ A env ρ (.List es pos) (.list (ks.map .str)) := ev_list (evl_strs h) (by rw [List.length_map]; exact hsz)
theorem strs_at {ks : List Str} {i : Nat} (h : i < ks.length) : (ks.map PV.str)[i]? = some (.str (ks.getD i ⟨#[]⟩)) := by
  rw [List.getElem?_map, List.getElem?_eq_getElem h, Option.map_some, List.getD_eq_getElem?_getD, List.getElem?_eq_getElem h]; rfl
end
/-- the place that a remainder names -/
theorem fmod_at (x : Int) {m : Int} (hm : 0 < m) : 0 ≤ x.fmod m ∧ x.fmod m < m := ⟨Int.fmod_nonneg_of_pos x hm, Int.fmod_lt_of_pos x hm⟩

def signsL : List Int := [102, 70, 119813, 73, 8464, 8466, 64256, 64257, 64258, 64259, 64260]
def thirdL : List Int := [173, 119813, 73, 76]
def spelled (x : Int) : List Nat := [(hidden.getD ((x.fdiv 44).fmod 27).toNat 0).toNat, (signsL.getD (x.fmod 11).toNat 0).toNat, (thirdL.getD ((x.fdiv 11).fmod 4).toNat 0).toNat]
def meantA : List Str := ["f", "f", "f", "i", "i", "l", "ff", "fi", "fl", "ffi", "ffl"]
def meantB : List Str := ["", "f", "i", "l"]
def meantOf (x : Int) : Str := meantA.getD (x.fmod 11).toNat ⟨#[]⟩ ++ meantB.getD ((x.fdiv 11).fmod 4).toNat ⟨#[]⟩
def signPV (c : Nat) : PV := .str ⟨#[c]⟩

theorem chr_ok {ks : List Int} (h : (ks.all fun k => !(decide (k < 0) || decide (k > 1114111))) = true) {i : Nat} (hi : i < ks.length) : (decide (ks.getD i 0 < 0) || decide (ks.getD i 0 > 1114111)) = false := by
  have := List.all_eq_true.mp h _ (getD_mem hi)
  simpa using this

theorem toNat_lt {a : Int} {n : Nat} (h0 : 0 ≤ a) (h : a < n) : a.toNat < n := by omega

section
variable {w : World} {τ : TopI} {A : Around} {k : Nat}
theorem c_spelled {aM : Addr} {x : Int} (hR : Room (k + 1) A) (hn : NoB τ) (hM : FnAt τ Pg 12 "_law_spelled" aM) :
    Ca Pg w τ A (.ref aM) [.int x] (.list ((spelled x).map signPV)) := by
  refine ca_def hR hM.fn ["x"] rfl (fun pm cd doc vs hv => ?_) (by decide) (by decide +kernel) (by decide +kernel) (fun A' L cd cells hR' => ?_)
  · obtain ⟨v, rfl⟩ := vs1 hv
    rfl
  · have m1 := fmod_at (x.fdiv 44) (m := 27) (by decide)
    have m2 := fmod_at x (m := 11) (by decide)
    have m3 := fmod_at (x.fdiv 11) (m := 4) (by decide)
    have i1 : ((x.fdiv 44).fmod 27).toNat < hidden.length := toNat_lt m1.1 m1.2
    have i2 : (x.fmod 11).toNat < signsL.length := toNat_lt m2.1 m2.2
    have i3 : ((x.fdiv 11).fmod 4).toNat < thirdL.length := toNat_lt m3.1 m3.2
    refine ex_cons (exs_assign (ev_ints (ks := signsL) (by repeat (first | exact .nil | refine .cons ?_)) (by decide)) (.inl rfl)) ?_
    refine ex_cons (exs_assign (p := .list (hidden.map .int)) (ev_eq (ev_bin (ev_ints (ks := [173, 847, 6150, 6155, 6156, 6157, 8203, 8204, 8205, 8288, 65279]) (by repeat (first | exact .nil | refine .cons ?_)) (by decide))
      (ev_list_range (n := 16) hR'.handled rfl (hn _ (by decide)) rfl (hn _ (by decide)) (by decide) (by decide) (by decide)) (bo_lists (by decide))) (by rfl)) (.inl rfl)) ?_
    refine ex_ret (exs_return (ev_list (evl_cons (p := signPV _) (ev_builtin (evl_cons (ev_sub (ev_local rfl rfl) (ev_bin (ev_bin (ev_local rfl rfl) ev_int (bo_fdiv (by decide) (PyProof.noPylong_small (by decide)))) ev_int (bo_mod (by decide))) (gi_list m1.1 (by omega) (ints_at i1))) evl_nil)
      (ca_chr (chr_ok (by decide +kernel) i1)) rfl (hn _ (by decide)) (by decide +kernel) (by decide)) (evl_cons (p := signPV _) (ev_builtin (evl_cons (ev_sub (ev_local rfl rfl) (ev_bin (ev_local rfl rfl) ev_int (bo_mod (by decide))) (gi_list m2.1 (by omega) (ints_at i2))) evl_nil)
      (ca_chr (chr_ok (by decide +kernel) i2)) rfl (hn _ (by decide)) (by decide +kernel) (by decide)) (evl_cons (p := signPV _) (ev_builtin (evl_cons (ev_sub (ev_ints (ks := thirdL) (by repeat (first | exact .nil | refine .cons ?_)) (by decide)) (ev_bin (ev_bin (ev_local rfl rfl) ev_int (bo_fdiv (by decide) (PyProof.noPylong_small (by decide)))) ev_int (bo_mod (by decide))) (gi_list m3.1 (by omega) (ints_at i3))) evl_nil)
      (ca_chr (chr_ok (by decide +kernel) i3)) rfl (hn _ (by decide)) (by decide +kernel) (by decide)) evl_nil))) (Nat.le_of_ble_eq_true rfl)))

theorem c_meant {aM : Addr} {x : Int} (hR : Room (k + 1) A) (hn : NoB τ) (hM : FnAt τ Pg 13 "_law_meant" aM) :
    Ca Pg w τ A (.ref aM) [.int x] (.str (meantOf x)) := by
  refine ca_def hR hM.fn ["x"] rfl (fun pm cd doc vs hv => ?_) (by decide) (by decide +kernel) (by decide +kernel) (fun A' L cd cells hR' => ?_)
  · obtain ⟨v, rfl⟩ := vs1 hv
    rfl
  · have m2 := fmod_at x (m := 11) (by decide)
    have m3 := fmod_at (x.fdiv 11) (m := 4) (by decide)
    have i2 : (x.fmod 11).toNat < meantA.length := toNat_lt m2.1 m2.2
    have i3 : ((x.fdiv 11).fmod 4).toNat < meantB.length := toNat_lt m3.1 m3.2
    have hlen : (meantA.getD (x.fmod 11).toNat ⟨#[]⟩).length + (meantB.getD ((x.fdiv 11).fmod 4).toNat ⟨#[]⟩).length ≤ sizeLine := by
      have h1 : ∀ i, (meantA.getD i ⟨#[]⟩).length ≤ 3 := fun i => by
        rw [List.getD_eq_getElem?_getD]
        cases h : meantA[i]? with
        | none => decide
        | some y => exact of_decide_eq_true (List.all_eq_true.mp (show (meantA.all fun y => decide (y.length ≤ 3)) = true by decide) y (List.mem_of_getElem? h))
      have h2 : ∀ i, (meantB.getD i ⟨#[]⟩).length ≤ 3 := fun i => by
        rw [List.getD_eq_getElem?_getD]
        cases h : meantB[i]? with
        | none => decide
        | some y => exact of_decide_eq_true (List.all_eq_true.mp (show (meantB.all fun y => decide (y.length ≤ 3)) = true by decide) y (List.mem_of_getElem? h))
      exact Nat.le_trans (Nat.add_le_add (h1 _) (h2 _)) (by decide)
    exact ex_ret (exs_return (ev_bin (ev_sub (ev_strs (ks := meantA) (by repeat (first | exact .nil | refine .cons ?_)) (by decide)) (ev_bin (ev_local rfl rfl) ev_int (bo_mod (by decide))) (gi_list m2.1 (by omega) (strs_at i2)))
      (ev_sub (ev_strs (ks := meantB) (by repeat (first | exact .nil | refine .cons ?_)) (by decide)) (ev_bin (ev_bin (ev_local rfl rfl) ev_int (bo_fdiv (by decide) (PyProof.noPylong_small (by decide)))) ev_int (bo_mod (by decide))) (gi_list m3.1 (by omega) (strs_at i3))) (bo_cat hlen)))
end
end Mine

/-! W4 -/
namespace Mine
set_option linter.unusedVariables false
set_option maxRecDepth 100000

def prepStep (acc : Str) (c : Nat) : Str := if memb hidden c then acc else acc ++ mapb3 c
def prep (cs : List Nat) : Str := cs.foldl prepStep ⟨#[]⟩

def numAt (x : Str) (k : Nat) : Int := ((((Txt.charAt x (-1 - (k : Int))).getD 0 : Nat) : Int) - 64) * 64 ^ k
def numOf (x : Str) : Int := ((List.range x.length).map (numAt x)).sum
/-- what the summing asks of a word -/
def NumOk (x : Str) : Prop := x.length < 1000 ∧ ∀ k, k < x.length → (Txt.charAt x (-1 - (k : Int))).isSome = true ∧ IntMulOk ((((Txt.charAt x (-1 - (k : Int))).getD 0 : Nat) : Int) - 64) (64 ^ k)

section
variable {w : World} {τ : TopI} {A : Around} {k : Nat}

theorem c_prepared {aP aI aM aS aT : Addr} {cs : List Nat} (hR : Room (k + 2) A) (hn : NoB τ) (hP : FnAt τ Pg 14 "_law_prepared" aP) (hI : FnAt τ Pg 7 "in_table_b1" aI) (hS : τ.mg "b1_set" = some (.ref aS)) (fS : ∀ h, τ.T h → ∃ n, h.SetOf (intKind Pg w) aS (memb hidden) n)
    (hM : FnAt τ Pg 9 "map_table_b3" aM) (hT : τ.mg "b3_exceptions" = some (.ref aT)) (hlow : (aT == sysModules) = false) (fT : ∀ h, τ.T h → ∃ kvs, h.DictOf (intKind Pg w) aT kvs ∧ Sts kvs (tabAt Pg 8))
    (hlen : ∀ i c, cs[i]? = some c → (prep (cs.take i)).length + (mapb3 c).length ≤ sizeLine) :
    Ca Pg w τ A (.ref aP) [.list (cs.map signPV)] (.str (prep cs)) := by
  refine ca_def (k := k + 1) hR hP.fn ["signs"] rfl (fun pm cd doc vs hv => ?_) (by decide) (by decide +kernel) (by decide +kernel) (fun A' L cd cells hR' => ?_)
  · obtain ⟨v, rfl⟩ := vs1 hv
    rfl
  · refine ex_cons (exs_assign ev_str (.inl rfl)) ?_
    refine ex_cons (exs_for (items := cs.map signPV) (fun i => [("kept", .str (prep (cs.take i))), ("signs", .list (cs.map signPV))]) (it_list (ev_local rfl rfl)) (.inl rfl) (by rfl) (fun i p hp => ?_) hR'.handled (by rfl)) ?_
    · obtain ⟨c, hc, rfl⟩ : ∃ c, cs[i]? = some c ∧ signPV c = p := by
        rw [List.getElem?_map] at hp
        exact Option.map_eq_some_iff.mp hp
      have hnext : prep (cs.take (i + 1)) = prepStep (prep (cs.take i)) c := by
        unfold prep
        rw [take_succ_get hc, List.foldl_append]; rfl
      refine ex_cons (exs_if (b := !(memb hidden c)) (o := .next [("kept", .str (prep (cs.take (i + 1)))), ("signs", .list (cs.map signPV))]) (tr_not (tr_value (ev_fn (evl_cons (ev_local rfl rfl) evl_nil) (c_in hR' hn hI hS fS) rfl hI.mg hI.fn.isFn))) (fun hb => ?_) (fun hb => ?_)) ex_nil
      · refine ex_sub (ex_cons (exs_aug (ld_local rfl rfl) (ev_fn (evl_cons (ev_local rfl rfl) evl_nil) (c_map hR' hn hM hT hlow fT) rfl hM.mg hM.fn.isFn) (io_cat (hlen i c hc)) (.inl rfl)) ex_nil) (.cons ?_ (.cons rfl .nil))
        have hm : memb hidden c = false := by simpa using hb
        rw [hnext, prepStep, hm]; rfl
      · refine ex_sub ex_nil (.cons ?_ (.cons rfl .nil))
        have hm : memb hidden c = true := by simpa using hb
        rw [hnext, prepStep, hm]; rfl
    · refine ex_ret (exs_return (ev_eq (ev_local (p := .str (prep (cs.take (cs.map signPV).length))) rfl rfl) ?_))
      rw [List.length_map, List.take_length]

theorem c_number {aN : Addr} {x : Str} (hR : Room (k + 1) A) (hn : NoB τ) (hN : FnAt τ Pg 15 "_law_number" aN) (hx : NumOk x) : Ca Pg w τ A (.ref aN) [.str x] (.int (numOf x)) := by
  refine ca_def hR hN.fn ["word"] rfl (fun pm cd doc vs hv => ?_) (by decide) (by decide +kernel) (by decide +kernel) (fun A' L cd cells hR' => ?_)
  · obtain ⟨v, rfl⟩ := vs1 hv
    rfl
  · have hl : x.length ≤ sizeLine := Nat.le_trans (Nat.le_of_lt hx.1) (by decide)
    refine ex_ret (exs_return (ev_builtin (evl_cons (ev_eq (ev_map (fun p => match p with | .int k => .int (numAt x k.toNat) | _ => .none) (it_range1 (n := x.length) (ev_builtin (evl_cons (ev_cell rfl rfl) evl_nil) (ca_len_str hl) rfl (hn _ (by decide)) (by decide +kernel) (by decide)) (by have := hx.1; omega) rfl (hn _ (by decide)) (by decide +kernel) (by decide))
      (.inl rfl) (by rfl) rfl (fun p hp C cs => ?_) hR'.handled (by rw [rng_len]; exact hl)) (p' := .list (((List.range x.length).map (numAt x)).map .int)) ?_) evl_nil) (ca_sum hR'.handled) rfl (hn _ (by decide)) (by decide +kernel) (by decide)))
    · unfold rng at hp
      obtain ⟨k', hk', rfl⟩ := List.mem_map.mp hp
      have hk2 := List.mem_range.mp hk'
      obtain ⟨h1, h2⟩ := hx.2 k' hk2
      have hidx : (-1 : Int) - (0 + (k' : Int)) = -1 - (k' : Int) := by omega
      have := hx.1
      refine ev_eq (p := .int (((((Txt.charAt x (-1 - (0 + (k' : Int)))).getD 0 : Nat) : Int) - 64) * 64 ^ (0 + (k' : Int)).toNat)) (ev_bin (ev_bin (ev_builtin (evl_cons (ev_sub (ev_cell rfl rfl) (ev_bin (ev_neg ev_int) (ev_local rfl rfl) bo_sub) (gi_str ?_ ?_)) evl_nil) ca_ord rfl (hn _ (by decide)) (by decide +kernel) (by decide)) ev_int bo_sub)
        (ev_bin ev_int (ev_local rfl rfl) (bo_pow (by omega) (by omega) (by decide))) (bo_mul ?_)) ?_
      · unfold fitsSsize
        simp
        omega
      · rw [hidx]; exact h1
      · rw [hidx]
        have : (0 + (k' : Int)).toNat = k' := by omega
        rw [this]; exact h2
      · rw [hidx]
        have : (0 + (k' : Int)).toNat = k' := by omega
        rw [this]
        show _ = PV.int (numAt x (0 + (k' : Int)).toNat)
        rw [this]; rfl
    · unfold rng
      rw [List.map_map, List.map_map]
      congr 1
      refine List.map_congr_left fun k' _ => ?_
      show PV.int (numAt x (0 + (k' : Int)).toNat) = PV.int (numAt x k')
      have : (0 + (k' : Int)).toNat = k' := by omega
      rw [this]
end
end Mine

/-! W5 -/
namespace Mine
set_option linter.unusedVariables false
set_option maxRecDepth 100000

/-- one new place in an order -/
def putAt (i : Nat) (p q : PV) : PV := match p, q with
  | .list l, .int j => .list (sl l none (some j) ++ [.int i] ++ sl l (some j) none)
  | _, _ => .none
def ordStep (i : Nat) (os : List PV) : List PV := os.flatMap fun p => (rng 0 (i + 1)).map (putAt i p)
def ordsOf : Nat → List PV
  | 0 => [.list []]
  | i + 1 => ordStep i (ordsOf i)
def isL (n : Nat) : PV → Bool
  | .list l => decide (l.length ≤ n)
  | _ => false
theorem ords_ok : ∀ i, i < 5 → (ordsOf i).all (isL 4) = true ∧ (ordsOf i).length ≤ sizeLine := fun i hi => by
  match i, hi with
  | 0, _ => decide
  | 1, _ => decide
  | 2, _ => decide
  | 3, _ => decide
  | 4, _ => decide

section
variable {w : World} {τ : TopI} {A : Around} {k : Nat}

theorem c_orders {aO : Addr} (hR : Room (k + 1) A) (hn : NoB τ) (hO : FnAt τ Pg 16 "_law_orders" aO) : Ca Pg w τ A (.ref aO) [.int 4] (.list (ordsOf 4)) := by
  refine ca_def hR hO.fn ["count"] rfl (fun pm cd doc vs hv => ?_) (by decide) (by decide +kernel) (by decide +kernel) (fun A' L cd cells hR' => ?_)
  · obtain ⟨v, rfl⟩ := vs1 hv
    rfl
  · refine ex_cons (exs_assign (p := .list (ordsOf 0)) (ev_list (evl_cons (ev_list evl_nil (by decide)) evl_nil) (by decide)) (.inl rfl)) ?_
    refine ex_cons (exs_for (items := rng 0 4) (fun i => [("orders", .list (ordsOf i)), ("count", .int 4)]) (it_range1 (n := 4) (ev_local rfl rfl) (by decide) rfl (hn _ (by decide)) (by decide +kernel) (by decide)) (.inr (by decide +kernel)) (by rfl) (fun i p hp => ?_) hR'.handled (by rfl)) ?_
    · have hi : i < 4 := by
        have := (List.getElem?_eq_some_iff.mp hp).1
        rwa [rng_len] at this
      have hpe : p = .int i := by
        unfold rng at hp
        rw [List.getElem?_map, List.getElem?_range hi] at hp
        cases hp
        simp
      subst hpe
      obtain ⟨hall, hsz⟩ := ords_ok i (by omega)
      have hnext := ords_ok (i + 1) (by omega)
      refine ex_sub (ex_cons (exs_comp2 (items := ordsOf i) (fun p => rng 0 (i + 1)) (putAt i) (it_list (ev_local rfl rfl)) rfl rfl (by decide) (by decide) (by rfl) rfl (fun p hp C cs => ?_) (fun p hp q hq C cs => ?_) hR'.handled hnext.2 (.inl rfl)) ex_nil) (.cons rfl (.cons rfl .nil))
      · exact it_range1 (n := i + 1) (ev_eq (ev_bin (ev_cell rfl rfl) ev_int bo_add) (by congr 1)) (by omega) rfl (hn _ (by decide)) (by decide +kernel) (by decide)
      · have hl := List.all_eq_true.mp hall p hp
        cases p with
        | list l =>
          have hl4 : l.length ≤ 4 := by simpa [isL] using hl
          have hls : l.length ≤ sizeLine := Nat.le_trans hl4 (by decide)
          unfold rng at hq
          obtain ⟨j, hj, rfl⟩ := List.mem_map.mp hq
          have s1 : ∀ (a b : Option Int), (sl l a b).length ≤ 4 := fun a b => by
            unfold sl
            rw [List.length_take, List.length_drop]; omega
          refine ev_bin (ev_bin (ev_slice_list (ev_local rfl rfl) evo_none (evo_some (ev_local rfl rfl)) hls) (ev_list (evl_cons (ev_cell rfl rfl) evl_nil) (Nat.le_of_ble_eq_true rfl)) (bo_lists ?_)) (ev_slice_list (ev_local rfl rfl) (evo_some (ev_local rfl rfl)) evo_none hls) (bo_lists ?_)
          · have := s1 none (some (0 + (j : Int)))
            have e : sizeLine = 16777216 := by decide
            simp only [List.length_cons, List.length_nil]; omega
          · have h1 := s1 none (some (0 + (j : Int)))
            have h2 := s1 (some (0 + (j : Int))) none
            have e : sizeLine = 16777216 := by decide
            rw [List.length_append]
            simp only [List.length_cons, List.length_nil]; omega
        | int _ => cases hl
        | bool _ => cases hl
        | str _ => cases hl
        | none => cases hl
        | tup _ => cases hl
        | adr _ => cases hl
    · exact ex_ret (exs_return (ev_local rfl rfl))
end
end Mine

/-! W6 -/
namespace Mine
set_option linter.unusedVariables false
set_option maxRecDepth 100000
section
variable {prog : Program} {w : World} {τ : TopI} {A : Around} {env : Env} {ρ : List (Str × PV)} {ns : List Int} {I : Addr} {i : Nat}
theorem KI.weak {l : Addr} {items : Array Value} {X : Addr → Prop} {hb : Heap} {s₀ s : Shared} {ρ' : List (Str × PV)} (K : KI τ env I l items X hb s₀ ρ i s) (hw : Sub ρ' ρ) : KI τ env I l items X hb s₀ ρ' i s :=
  ⟨K.same, K.fi.weak hw.at, K.it, K.keep, K.list, K.lI, K.hbI, K.XI, K.loc, K.ex⟩
theorem exk_sub {ss : List Stmt} {ρ₁ ρ₂ : List (Str × PV)} {i' : Nat} (h : ExK prog w τ A env I ns ρ i ss (.next ρ₁ i')) (hw : Sub ρ₂ ρ₁) : ExK prog w τ A env I ns ρ i ss (.next ρ₂ i') := .mk fun l items X hb s₀ s Q E hi K hQ =>
  h.run l items X hb s₀ s Q E hi K fun s' K' => hQ s' (K'.weak hw)
theorem exk_pre {ss : List Stmt} {ρ₁ : List (Str × PV)} {o : OutK} (h : ExK prog w τ A env I ns ρ₁ i ss o) (hw : Sub ρ₁ ρ) : ExK prog w τ A env I ns ρ i ss o := .mk fun l items X hb s₀ s Q E hi K hQ =>
  h.run l items X hb s₀ s Q E hi (K.weak hw) hQ
end

/-- the number that is read from place o on -/
def vval (ns : List Int) (o : Nat) : Nat → Int
  | 0 => Builtin.bitAnd (ns.getD o 0) 63
  | i + 1 => Builtin.bitOr (vval ns o i * 2 ^ (6 : Int).toNat) (Builtin.bitAnd (ns.getD (o + (i + 1)) 0) 63)
structure VOk (ns : List Int) (o n : Nat) : Prop where
  len : o + n < ns.length
  more : ∀ j, j < n → Builtin.bitAnd (ns.getD (o + j) 0) 64 ≠ 0
  last : Builtin.bitAnd (ns.getD (o + n) 0) 64 = 0
  size : ∀ j, j < n → (Builtin.Int.intBits (vval ns o j) : Int) + 6 ≤ 2 ^ 27

section
variable {w : World} {τ : TopI} {A : Around} {k : Nat}
theorem k_varint {ns : List Int} {o n : Nat} (hn : NoB τ) (h : VOk ns o n) (aV I : Addr) (A' : Around) (L : Addr) (cd : Value) (hR : Room k A') :
    ExK Pg w τ A' (fenv (dAt Pg 1).name (dAt Pg 1).scope aV L cd []) I ns [("iterator", .adr I)] o (dAt Pg 1).body (.ret (.int (vval ns o n)) (o + n + 1)) := by
  have at_ : ∀ j, j ≤ n → ns[o + j]? = some (ns.getD (o + j) 0) := fun j hj => by
    have := h.len
    rw [List.getD_eq_getElem?_getD, List.getElem?_eq_getElem (by omega)]; rfl
  refine exk_cons (exsk_next (n := ns.getD o 0) (ev_local rfl rfl) (at_ 0 (Nat.zero_le _)) (.inl rfl) (by rfl) rfl (hn _ (by decide))) ?_
  refine exk_cons (exsk_plain (exs_assign (ev_bin (ev_local rfl rfl) ev_int bo_and) (.inl rfl))) ?_
  refine exk_pre (ρ₁ := [("b", .int (ns.getD (o + 0) 0)), ("val", .int (vval ns o 0)), ("iterator", .adr I)]) ?_ (.cons rfl (.cons rfl (.cons rfl .nil)))
  refine exk_cons (exsk_while (fun j => [("b", .int (ns.getD (o + j) 0)), ("val", .int (vval ns o j)), ("iterator", .adr I)]) n (by rfl) (fun j hj => tr_eq (tr_int (ev_bin (ev_local rfl rfl) ev_int bo_and)) ?_) (tr_eq (tr_int (ev_bin (ev_local rfl rfl) ev_int bo_and)) ?_) (fun j hj => ?_)) ?_
  · simpa using h.more j hj
  · simpa using h.last
  · refine exk_sub (exk_cons (exsk_plain (exs_aug (ld_local rfl rfl) ev_int (io_shl (by decide) (h.size j hj)) (.inl rfl))) (exk_cons (exsk_next (n := ns.getD (o + (j + 1)) 0) (ev_local rfl rfl) ?_ (.inl rfl) (by rfl) rfl (hn _ (by decide))) (exk_cons (exsk_plain (exs_aug (ld_local rfl rfl) (ev_bin (ev_local rfl rfl) ev_int bo_and) io_or (.inl rfl))) exk_nil))) (.cons rfl (.cons rfl (.cons rfl .nil)))
    have := at_ (j + 1) hj
    rw [← this]
    congr 1
    omega
  · have : o + 1 + n = o + n + 1 := by omega
    rw [this]
    exact exk_ret (exsk_return (ev_local rfl rfl))
end
end Mine

/-! W7 -/
namespace Mine
set_option linter.unusedVariables false
set_option maxRecDepth 100000

theorem sl_upto {α : Type} {l : List α} {n : Nat} (h : l.length ≤ n) : sl l none (some (n : Int)) = l := by
  unfold sl
  have : clipAt l.length (n : Int) = l.length := by
    unfold clipAt
    rw [if_neg (by omega)]
    omega
  simp [this]

def drawStep (m : Nat) (xs : List Int) (i : Nat) (ns : List Int) : List Int := ns.set (((i : Int).fmod m).toNat) (ns.getD (((i : Int).fmod m).toNat) 0 + (xs.getD i 0).fmod (10 ^ (6 : Int).toNat))
def drawIter (m : Nat) (start xs : List Int) : Nat → List Int
  | 0 => start
  | i + 1 => drawStep m xs i (drawIter m start xs i)
theorem draw_len {m : Nat} {start xs : List Int} : ∀ i, (drawIter m start xs i).length = start.length
  | 0 => rfl
  | i + 1 => by unfold drawIter drawStep; rw [List.length_set]; exact draw_len i
def drawn1 (xs : List Int) : List Int := drawIter 4 [7, 1, 6, 20] xs xs.length

section
variable {w : World} {τ : TopI} {A : Around} {k : Nat}
theorem c_drawn {aD : Addr} {xs : List Int} (hR : Room (k + 1) A) (hn : NoB τ) (hD : FnAt τ Pg 11 "_law_drawn" aD) (hx : xs.length ≤ 63) : Ca Pg w τ A (.ref aD) [.list (xs.map .int)] (.list ((drawn1 xs).map .int)) := by
  refine ca_def hR hD.fn ["script"] rfl (fun pm cd doc vs hv => ?_) (by decide) (by decide +kernel) (by decide +kernel) (fun A' L cd cells hR' => ?_)
  · obtain ⟨v, rfl⟩ := vs1 hv
    rfl
  · have hitems : (sl (xs.map PV.int) none (some 63)).zipIdx.map (fun p => [PV.int p.2, p.1]) = (xs.map PV.int).zipIdx.map (fun p => [PV.int p.2, p.1]) := by
      rw [show (63 : Int) = ((63 : Nat) : Int) from rfl, sl_upto (by rw [List.length_map]; exact hx)]
    have hlen : ((xs.map PV.int).zipIdx.map (fun p => [PV.int p.2, p.1])).length = xs.length := by simp
    have hat : ∀ (i : Nat) (ps : List PV), ((xs.map PV.int).zipIdx.map (fun p => [PV.int p.2, p.1]))[i]? = some ps → ps = [PV.int (i : Int), PV.int (xs.getD i 0)] := fun i ps h => by
      have hi : i < xs.length := by
        have := (List.getElem?_eq_some_iff.mp h).1
        rwa [hlen] at this
      rw [List.getElem?_map, List.getElem?_zipIdx, List.getElem?_map, List.getElem?_eq_getElem hi] at h
      simp at h
      rw [← h]
      simp [List.getD_eq_getElem?_getD, List.getElem?_eq_getElem hi]
    refine ex_mut (items := (xs.map PV.int).zipIdx.map (fun p => [PV.int p.2, p.1])) (ks := [7, 1, 6, 20]) (xs := ["k", "x"]) (drawIter 4 [7, 1, 6, 20] xs) (fun i => (i : Int).fmod 4) (fun i => (xs.getD i 0).fmod (10 ^ (6 : Int).toNat)) (fun i => (drawIter 4 [7, 1, 6, 20] xs i).getD (((i : Int).fmod 4).toNat) 0)
      (by repeat (first | exact .nil | refine .cons ?_)) (by decide) rfl rfl ?_ ?_ (fun a => ?_) (fun ps hps => ?_) (fun a i ps hp => ?_) (fun a i ps hp => ?_) (fun i hi => ?_) hR'.handled (by rfl) ?_
    · exact .cons (.inl rfl) (.cons (.inl rfl) .nil)
    · intro y hy
      rcases List.mem_cons.mp hy with rfl | hy
      · exact ⟨by decide, rfl⟩
      · rcases List.mem_cons.mp hy with rfl | hy
        · exact ⟨by decide, rfl⟩
        · cases hy
    · rw [← hitems]
      exact itU_enum (evl_cons (ev_slice_list (ev_local rfl rfl) evo_none (evo_some ev_int) (by rw [List.length_map]; exact Nat.le_trans hx (by decide))) evl_nil) rfl (hn _ (by decide)) (by decide +kernel)
    · obtain ⟨p, _, rfl⟩ := List.mem_map.mp hps
      rfl
    · have := hat i ps hp; subst this
      exact ev_bin (ev_local rfl rfl) ev_int (bo_mod (by decide))
    · have := hat i ps hp; subst this
      exact ev_bin (ev_local rfl rfl) (ev_bin ev_int ev_int (bo_pow (by decide) (by decide) (by decide))) (bo_mod (by decide))
    · have m := fmod_at (i : Int) (m := 4) (by decide)
      have hl : (drawIter 4 [7, 1, 6, 20] xs i).length = 4 := draw_len i
      refine ⟨m.1, by omega, ?_, rfl⟩
      have hb : ((i : Int).fmod 4).toNat < (drawIter 4 [7, 1, 6, 20] xs i).length := by rw [hl]; exact toNat_lt m.1 m.2
      rw [List.getD_eq_getElem?_getD, List.getElem?_eq_getElem hb]; rfl
    · refine ex_ret (exs_return (ev_eq (ev_local rfl rfl) ?_))
      rw [hlen]; rfl
end
end Mine

/-! T0 -/
namespace Mine
set_option linter.unusedVariables false
set_option maxRecDepth 100000

def nilS : Str := ⟨#[]⟩
def mark : Str := "..."
/-- where the search stands before the i-th word -/
def stp (got : Str) (en : Int) (ws : List Str) (st : Int) : Nat → Int
  | 0 => st
  | i + 1 => find4 got (ws.getD i nilS) (stp got en ws st i) en + (ws.getD i nilS).length
def findAll (got : Str) (en : Int) : List Str → Int → Bool
  | [], _ => true
  | w :: ws, st => if find4 got w st en < 0 then false else findAll got en ws (find4 got w st en + w.length)
theorem stp_cons (got : Str) (en : Int) (w : Str) (ws : List Str) (st : Int) : ∀ i, stp got en (w :: ws) st (i + 1) = stp got en ws (find4 got w st en + w.length) i
  | 0 => rfl
  | i + 1 => by
    show find4 got ((w :: ws).getD (i + 1) nilS) (stp got en (w :: ws) st (i + 1)) en + _ = find4 got (ws.getD i nilS) (stp got en ws _ i) en + _
    rw [stp_cons got en w ws st i]
    rfl
theorem findAll_spec (got : Str) (en : Int) : ∀ (ws : List Str) (st : Int), (findAll got en ws st = true ∧ ∀ i, i < ws.length → 0 ≤ find4 got (ws.getD i nilS) (stp got en ws st i) en) ∨
    (findAll got en ws st = false ∧ ∃ k, k < ws.length ∧ (∀ i, i < k → 0 ≤ find4 got (ws.getD i nilS) (stp got en ws st i) en) ∧ find4 got (ws.getD k nilS) (stp got en ws st k) en < 0)
  | [], st => .inl ⟨rfl, fun i h => absurd h (Nat.not_lt_zero _)⟩
  | w :: ws, st => by
    by_cases hf : find4 got w st en < 0
    · refine .inr ⟨by unfold findAll; rw [if_pos hf], 0, Nat.succ_pos _, fun i h => absurd h (Nat.not_lt_zero _), hf⟩
    · have e : findAll got en (w :: ws) st = findAll got en ws (find4 got w st en + w.length) := by
        conv => lhs; unfold findAll
        rw [if_neg hf]
      have h0 : 0 ≤ find4 got w st en := by omega
      rcases findAll_spec got en ws (find4 got w st en + w.length) with ⟨h1, h2⟩ | ⟨h1, k, hk, h2, h3⟩
      · refine .inl ⟨e.trans h1, fun i hi => ?_⟩
        cases i with
        | zero => exact h0
        | succ i => rw [stp_cons]; exact h2 i (by simpa using hi)
      · refine .inr ⟨e.trans h1, k + 1, by simpa using hk, fun i hi => ?_, ?_⟩
        · cases i with
          | zero => exact h0
          | succ i => rw [stp_cons]; exact h2 i (by omega)
        · rw [stp_cons]; exact h3

def ellip3 (got : Str) (ws : List Str) (st en : Int) : Bool := if st > en then false else findAll got en ws st
def ellip2 (got : Str) (ws : List Str) (st : Int) : Bool :=
  let w := ws.getD (ws.length - 1) nilS
  if w.length = 0 then ellip3 got ws st got.length
  else if Txt.endswith got w then ellip3 got (ws.eraseIdx (ws.length - 1)) st ((got.length : Int) - w.length)
  else false
def ellip (want got : Str) : Bool :=
  if Txt.contains want mark then
    let ws := Txt.split want mark
    let w := ws.getD 0 nilS
    if w.length = 0 then ellip2 got ws 0
    else if Txt.startswith got w then ellip2 got (ws.eraseIdx 0) w.length
    else false
  else want == got
/-- what the match asks of its texts -/
structure EOk (want got : Str) : Prop where
  wantL : want.length ≤ 1000
  gotL : got.length ≤ 1000
  parts : (Txt.split want mark).length ≤ 1000
  cuts : (Builtin.Str.partsBetween want (Builtin.Str.occurrences want mark 0 want.length (want.length + 1)) mark.length).length ≤ sizeLine
  two : Txt.contains want mark = true → 2 ≤ (Txt.split want mark).length
  words : ∀ w ∈ Txt.split want mark, w.length ≤ 1000

end Mine

/-! W8 -/
namespace Mine
set_option linter.unusedVariables false
set_option maxRecDepth 100000

theorem strs_nth {ws : List Str} {i : Nat} (h : i < ws.length) : (ws.map PV.str)[i]? = some (.str (ws.getD i nilS)) := strs_at h
theorem strs_atom (ws : List Str) : (ws.map PV.str).all PV.atom = true := by
  rw [List.all_eq_true]; intro p hp
  obtain ⟨x, _, rfl⟩ := List.mem_map.mp hp
  rfl
theorem atoms_of {ρ : List (Str × PV)} {x : Str} (h : (ρ.all fun p => p.1 == x || p.2.atom) = true) : ∀ y q, ρ.lookup y = some q → y = x ∨ q.atom = true := fun y q hy => by
  have := List.all_eq_true.mp h (y, q) (mem_of_lookup hy)
  simpa [Bool.or_eq_true] using this
theorem map_eraseIdx : ∀ (ws : List Str) (k : Nat), (ws.map PV.str).eraseIdx k = (ws.eraseIdx k).map .str
  | [], _ => rfl
  | x :: ws, 0 => rfl
  | x :: ws, k + 1 => by
    show PV.str x :: (ws.map PV.str).eraseIdx k = PV.str x :: (ws.eraseIdx k).map .str
    rw [map_eraseIdx ws k]
theorem exz_pre {prog : Program} {w : World} {τ : TopI} {A : Around} {own : List Str} {env : Env} {ρ ρ₁ : List (Str × PV)} {ss : List Stmt} {o : Out} (h : ExZ prog w τ A own env ρ₁ ss o) (hw : Sub ρ₁ ρ) : ExZ prog w τ A own env ρ ss o :=
  .mk fun X h₀ s Q E Z F hQ => h.run X h₀ s Q E Z (F.weak hw.at) hQ
theorem exz_sub {prog : Program} {w : World} {τ : TopI} {A : Around} {own : List Str} {env : Env} {ρ ρ₁ ρ₂ : List (Str × PV)} {ss : List Stmt} (h : ExZ prog w τ A own env ρ ss (.next ρ₁)) (hw : Sub ρ₂ ρ₁) : ExZ prog w τ A own env ρ ss (.next ρ₂) := exz_weak h hw.at
theorem len_true {x : Str} (h : ¬ x.length = 0) : ((x.length : Int) != 0) = true := by
  have : (x.length : Int) ≠ 0 := by omega
  simpa using this

/-- the frame of the match, as far as the last part goes -/
def eρ (got : Str) (ws : List Str) (st en : Int) : List (Str × PV) := [("startpos", .int st), ("endpos", .int en), ("ws", .list (ws.map .str)), ("got", .str got)]

section
variable {w : World} {τ : TopI} {A : Around} {k : Nat} {aE L : Addr} {cd : Value} {cells : List (Str × Addr)}
abbrev eenv (aE L : Addr) (cd : Value) (cells : List (Str × Addr)) : Env := fenv (dAt Pg 4).name (dAt Pg 4).scope aE L cd cells

theorem e3 {got : Str} {ws : List Str} {st en : Int} (hA : A.handled = none) (hn : NoB τ) (hg : got.length ≤ 1000) (hw : ∀ x ∈ ws, x.length ≤ 1000) :
    ExZ Pg w τ A (ownOf (dAt Pg 4).scope) (eenv aE L cd cells) (eρ got ws st en) ((dAt Pg 4).body.drop 8) (.ret (.bool (ellip3 got ws st en))) := by
  unfold ellip3
  by_cases hgt : st > en
  · rw [if_pos hgt]
    exact exz_ret (exsz_if (b := true) (tr_eq (tr_cmp (ev_local rfl rfl) (ev_local rfl rfl) co_gt) (by simpa using hgt)) (fun _ => (ex_ret (exs_return ev_bool)).z) (fun h => by cases h))
  · rw [if_neg hgt]
    refine exz_cons (exsz_if (b := false) (o := .next _) (tr_eq (tr_cmp (ev_local rfl rfl) (ev_local rfl rfl) co_gt) (by simpa using hgt)) (fun h => by cases h) (fun _ => exz_nil)) ?_
    have wl : ∀ i, i < ws.length → (ws.getD i nilS).length ≤ sizeLine := fun i hi => by
      have : ws.getD i nilS ∈ ws := by rw [List.getD_eq_getElem?_getD, List.getElem?_eq_getElem hi]; exact List.getElem_mem hi
      exact Nat.le_trans (hw _ this) (by decide)
    have item : ∀ i p, (ws.map PV.str)[i]? = some p → i < ws.length ∧ p = .str (ws.getD i nilS) := fun i p h => by
      have hi : i < ws.length := by
        have := (List.getElem?_eq_some_iff.mp h).1
        rwa [List.length_map] at this
      rw [strs_nth hi] at h
      exact ⟨hi, (Option.some.inj h).symm⟩
    rcases findAll_spec got en ws st with ⟨h1, h2⟩ | ⟨h1, j, hj, h2, h3⟩
    · rw [h1]
      refine exz_cons (exs_for (items := ws.map .str) (fun i => eρ got ws (stp got en ws st i) en) (it_list (ev_local rfl rfl)) (.inl rfl) (by rfl) (fun i p hp => ?_) hA (by rfl)).z ?_
      · obtain ⟨hi, rfl⟩ := item i p hp
        refine ex_sub (ex_cons (exs_assign (ev_meth (ev_local rfl rfl) (evl_cons (ev_local rfl rfl) (evl_cons (ev_local rfl rfl) (evl_cons (ev_local rfl rfl) evl_nil))) ca_find4 (str_is _) PySem.F.plainAttrs_str PySem.F.slot_str_find PySem.F.type_str_find) (.inl rfl))
          (ex_cons (exs_if (b := false) (o := .next _) (tr_eq (tr_cmp (ev_local rfl rfl) ev_int co_lt) ?_) (fun h => by cases h) (fun _ => ex_nil))
          (ex_cons (exs_aug (ld_local rfl rfl) (ev_builtin (evl_cons (ev_local rfl rfl) evl_nil) (ca_len_str (wl i hi)) rfl (hn _ (by decide)) (by decide +kernel) (by decide)) io_add (.inl rfl)) ex_nil))) (.cons rfl (.cons rfl (.cons rfl (.cons rfl .nil))))
        exact decide_eq_false (Int.not_lt.mpr (h2 i hi))
      · exact exz_ret (exs_return ev_bool).z
    · rw [h1]
      refine exz_ret (exs_for_ret (k := j) (items := ws.map .str) (fun i => eρ got ws (stp got en ws st i) en) (it_list (ev_local rfl rfl)) (.inl rfl) (by rfl) (by rw [List.length_map]; exact hj) (fun i p hij hp => ?_) (fun p hp => ?_) hA (by rfl)).z
      · obtain ⟨hi, rfl⟩ := item i p hp
        refine ex_sub (ex_cons (exs_assign (ev_meth (ev_local rfl rfl) (evl_cons (ev_local rfl rfl) (evl_cons (ev_local rfl rfl) (evl_cons (ev_local rfl rfl) evl_nil))) ca_find4 (str_is _) PySem.F.plainAttrs_str PySem.F.slot_str_find PySem.F.type_str_find) (.inl rfl))
          (ex_cons (exs_if (b := false) (o := .next _) (tr_eq (tr_cmp (ev_local rfl rfl) ev_int co_lt) ?_) (fun h => by cases h) (fun _ => ex_nil))
          (ex_cons (exs_aug (ld_local rfl rfl) (ev_builtin (evl_cons (ev_local rfl rfl) evl_nil) (ca_len_str (wl i hi)) rfl (hn _ (by decide)) (by decide +kernel) (by decide)) io_add (.inl rfl)) ex_nil))) (.cons rfl (.cons rfl (.cons rfl (.cons rfl .nil))))
        exact decide_eq_false (Int.not_lt.mpr (h2 i hij))
      · obtain ⟨hi, rfl⟩ := item j p hp
        refine ex_cons (exs_assign (ev_meth (ev_local rfl rfl) (evl_cons (ev_local rfl rfl) (evl_cons (ev_local rfl rfl) (evl_cons (ev_local rfl rfl) evl_nil))) ca_find4 (str_is _) PySem.F.plainAttrs_str PySem.F.slot_str_find PySem.F.type_str_find) (.inl rfl)) ?_
        refine ex_ret (exs_if (b := true) (tr_eq (tr_cmp (ev_local rfl rfl) ev_int co_lt) ?_) (fun _ => ex_ret (exs_return ev_bool)) (fun h => by cases h))
        exact decide_eq_true h3

theorem e2 {got : Str} {ws : List Str} {st : Int} (hA : A.handled = none) (hn : NoB τ) (hg : got.length ≤ 1000) (hl : 1 ≤ ws.length) (hl2 : ws.length ≤ 1000) (hw : ∀ x ∈ ws, x.length ≤ 1000) :
    ExZ Pg w τ A (ownOf (dAt Pg 4).scope) (eenv aE L cd cells) (eρ got ws st got.length) ((dAt Pg 4).body.drop 6) (.ret (.bool (ellip2 got ws st))) := by
  have hlast : ws.length - 1 < ws.length := by omega
  have hsz : (1000 : Nat) ≤ sizeLine := by decide
  have hmem : ws.getD (ws.length - 1) nilS ∈ ws := by rw [List.getD_eq_getElem?_getD, List.getElem?_eq_getElem hlast]; exact List.getElem_mem hlast
  have hwl : (ws.getD (ws.length - 1) nilS).length ≤ sizeLine := Nat.le_trans (hw _ hmem) hsz
  refine exz_cons (exs_assign (p := .str (ws.getD (ws.length - 1) nilS)) (ev_sub (ev_local rfl rfl) (ev_neg ev_int) (gi_list_neg (by decide) (by rw [List.length_map]; omega) (by decide) ?_)) (.inl rfl)).z ?_
  · rw [List.length_map]
    have : (-1 + (ws.length : Int)).toNat = ws.length - 1 := by omega
    rw [this]
    exact strs_nth hlast
  · unfold ellip2
    dsimp only
    by_cases h0 : (ws.getD (ws.length - 1) nilS).length = 0
    · rw [if_pos h0]
      refine exz_cons (exsz_if (b := false) (o := .next _) (tr_eq (tr_str (ev_local rfl rfl) hwl) (by rw [h0]; rfl)) (fun h => by cases h) (fun _ => exz_nil)) ?_
      exact exz_pre (e3 hA hn hg hw) (.cons rfl (.cons rfl (.cons rfl (.cons rfl .nil))))
    · rw [if_neg h0]
      have htr := len_true h0
      by_cases he : Txt.endswith got (ws.getD (ws.length - 1) nilS) = true
      · rw [if_pos he]
        refine exz_cons (exsz_if (b := true) (o := .next (eρ got (ws.eraseIdx (ws.length - 1)) st ((got.length : Int) - (ws.getD (ws.length - 1) nilS).length))) (tr_eq (tr_str (ev_local rfl rfl) hwl) htr) (fun _ => ?_) (fun h => by cases h)) (e3 hA hn hg fun x hx => hw x (List.mem_of_mem_eraseIdx hx))
        refine exz_cons (exsz_if (b := true) (o := .next _) (tr_eq (tr_value (ev_meth (ev_local rfl rfl) (evl_cons (ev_local rfl rfl) evl_nil) ca_endswith (str_is _) PySem.F.plainAttrs_str PySem.F.slot_str_endswith PySem.F.type_str_endswith)) he) (fun _ => ?_) (fun h => by cases h)) exz_nil
        refine exz_sub (ρ₁ := ("ws", .list ((ws.eraseIdx (ws.length - 1)).map .str)) :: ("endpos", .int ((got.length : Int) - (ws.getD (ws.length - 1) nilS).length)) :: ("w", .str (ws.getD (ws.length - 1) nilS)) :: eρ got ws st got.length) ?_ (.cons rfl (.cons rfl (.cons rfl (.cons rfl .nil))))
        refine exz_cons (exs_aug (ld_local rfl rfl) (ev_builtin (evl_cons (ev_local rfl rfl) evl_nil) (ca_len_str hwl) rfl (hn _ (by decide)) (by decide +kernel) (by decide)) io_sub (.inl rfl)).z ?_
        rw [← map_eraseIdx]
        refine exz_cons (exsz_del (i := -1) (k := ws.length - 1) rfl rfl (strs_atom ws) (atoms_of (by rfl)) (ev_neg ev_int) (by decide) ?_ (by rw [List.length_map]; omega) (by rw [List.length_map]; exact Nat.le_trans hl2 hsz)) exz_nil
        rw [List.length_map]
        unfold seqIndex?
        have h1 : (-1 : Int) + (ws.length : Int) = ((ws.length - 1 : Nat) : Int) := by omega
        simp [h1]
        omega
      · rw [if_neg he]
        have he' : Txt.endswith got (ws.getD (ws.length - 1) nilS) = false := by simpa using he
        refine exz_ret (exsz_if (b := true) (tr_eq (tr_str (ev_local rfl rfl) hwl) htr) (fun _ => ?_) (fun h => by cases h))
        exact exz_ret (exsz_if (b := false) (tr_eq (tr_value (ev_meth (ev_local rfl rfl) (evl_cons (ev_local rfl rfl) evl_nil) ca_endswith (str_is _) PySem.F.plainAttrs_str PySem.F.slot_str_endswith PySem.F.type_str_endswith)) he') (fun h => by cases h) (fun _ => (ex_ret (exs_return ev_bool)).z))
end
end Mine

/-! W9 -/
namespace Mine
set_option linter.unusedVariables false
set_option maxRecDepth 100000
section
variable {w : World} {τ : TopI} {A : Around} {k : Nat}

theorem c_ellip {aE : Addr} {tm : Tok} {want got : Str} (hR : Room (k + 1) A) (hn : NoB τ) (hE : FnAt τ Pg 4 "_ellipsis_match" aE) (hmk : τ.mg "ELLIPSIS_MARKER" = some (.str mark tm)) (ok : EOk want got) :
    Ca Pg w τ A (.ref aE) [.str want, .str got] (.bool (ellip want got)) := by
  refine ca_defZ hR hE.fn ["want", "got"] rfl rfl (fun pm cd doc vs hv => ?_) (by decide) (by decide +kernel) (by decide +kernel) (fun A' L cd cells hR' => ?_)
  · obtain ⟨v, u, rfl⟩ := vs2 hv
    rfl
  · have hA := hR'.handled
    have hsz : (1000 : Nat) ≤ sizeLine := by decide
    show ExZ Pg w τ A' (ownOf (dAt Pg 4).scope) (eenv aE L cd cells) _ ((dAt Pg 4).body.drop 0) _
    unfold ellip
    cases hc : Txt.contains want mark with
    | false =>
      rw [if_neg (by decide)]
      exact exz_ret (exsz_if (b := true) (tr_eq (tr_cmp (ev_global_str rfl hmk) (ev_local rfl rfl) co_notin) (by rw [hc]; rfl)) (fun _ => (ex_ret (exs_return (ev_cmp (ev_local rfl rfl) (ev_local rfl rfl) co_eqs))).z) (fun h => by cases h))
    | true =>
      rw [if_pos rfl]
      have h2 := ok.two hc
      dsimp only
      generalize hws : Txt.split want mark = ws at h2 ⊢
      have hwd : ∀ x ∈ ws, x.length ≤ 1000 := hws ▸ ok.words
      have hwlen : ws.length ≤ 1000 := hws ▸ ok.parts
      have hmem : ws.getD 0 nilS ∈ ws := by rw [List.getD_eq_getElem?_getD, List.getElem?_eq_getElem (by omega)]; exact List.getElem_mem _
      have hwl : (ws.getD 0 nilS).length ≤ sizeLine := Nat.le_trans (hwd _ hmem) hsz
      refine exz_cons (exsz_if (b := false) (o := .next _) (tr_eq (tr_cmp (ev_global_str rfl hmk) (ev_local rfl rfl) co_notin) (by rw [hc]; rfl)) (fun h => by cases h) (fun _ => exz_nil)) ?_
      refine exz_cons (exs_assign (p := .list (ws.map .str)) (ev_eq (ev_meth (ev_local rfl rfl) (evl_cons (ev_global_str rfl hmk) evl_nil) (ca_split (by decide) (Nat.le_trans ok.wantL hsz) ok.cuts) (str_is _) PySem.F.plainAttrs_str PySem.F.slot_str_split PySem.F.type_str_split) (by rw [hws])) (.inl rfl)).z ?_
      refine exz_cons (exs_assert hA (tr_eq (tr_cmp (ev_builtin (evl_cons (ev_local rfl rfl) evl_nil) (ca_len_list (by rw [List.length_map]; exact Nat.le_trans hwlen hsz)) rfl (hn _ (by decide)) (by decide +kernel) (by decide)) ev_int co_ge) (by rw [List.length_map]; exact decide_eq_true (by omega)))).z ?_
      refine exz_cons (exs_swap2 (x := "startpos") (y := "endpos") (p := .int 0) (q := .int got.length) hA (ev_tup (evl_cons ev_int (evl_cons (ev_builtin (evl_cons (ev_local rfl rfl) evl_nil) (ca_len_str (Nat.le_trans ok.gotL hsz)) rfl (hn _ (by decide)) (by decide +kernel) (by decide)) evl_nil)) (Nat.le_of_ble_eq_true rfl)) (.inl rfl) (.inl rfl) (by rfl) (by rfl)).z ?_
      refine exz_cons (exs_assign (p := .str (ws.getD 0 nilS)) (ev_sub (ev_local rfl rfl) ev_int (gi_list (by decide) (by decide) (strs_nth (by show 0 < ws.length; omega)))) (.inl rfl)).z ?_
      by_cases h0 : (ws.getD 0 nilS).length = 0
      · rw [if_pos h0]
        refine exz_cons (exsz_if (b := false) (o := .next _) (tr_eq (tr_str (ev_local rfl rfl) hwl) (by rw [h0]; rfl)) (fun h => by cases h) (fun _ => exz_nil)) ?_
        exact exz_pre (e2 hA hn ok.gotL (by omega) hwlen hwd) (.cons rfl (.cons rfl (.cons rfl (.cons rfl .nil))))
      · rw [if_neg h0]
        have htr := len_true h0
        by_cases he : Txt.startswith got (ws.getD 0 nilS) = true
        · rw [if_pos he]
          refine exz_cons (exsz_if (b := true) (o := .next (eρ got (ws.eraseIdx 0) ((ws.getD 0 nilS).length : Int) got.length)) (tr_eq (tr_str (ev_local rfl rfl) hwl) htr) (fun _ => ?_) (fun h => by cases h)) (e2 hA hn ok.gotL (by rw [List.length_eraseIdx]; split <;> omega) (by rw [List.length_eraseIdx]; split <;> omega) fun x hx => hwd x (List.mem_of_mem_eraseIdx hx))
          refine exz_cons (exsz_if (b := true) (o := .next _) (tr_eq (tr_value (ev_meth (ev_local rfl rfl) (evl_cons (ev_local rfl rfl) evl_nil) ca_startswith (str_is _) PySem.F.plainAttrs_str PySem.F.slot_str_startswith PySem.F.type_str_startswith)) he) (fun _ => ?_) (fun h => by cases h)) exz_nil
          refine exz_sub (ρ₁ := ("ws", .list ((ws.eraseIdx 0).map .str)) :: ("startpos", .int ((ws.getD 0 nilS).length : Int)) :: ("w", .str (ws.getD 0 nilS)) :: ("startpos", .int 0) :: ("endpos", .int got.length) :: ("ws", .list (ws.map .str)) :: ("want", .str want) :: ("got", .str got) :: []) ?_ (.cons rfl (.cons rfl (.cons rfl (.cons rfl .nil))))
          refine exz_cons (exs_assign (ev_builtin (evl_cons (ev_local rfl rfl) evl_nil) (ca_len_str hwl) rfl (hn _ (by decide)) (by decide +kernel) (by decide)) (.inl rfl)).z ?_
          rw [← map_eraseIdx]
          refine exz_cons (exsz_del (i := 0) (k := 0) rfl rfl (strs_atom ws) (atoms_of (by rfl)) ev_int (by decide) ?_ (by rw [List.length_map]; omega) (by rw [List.length_map]; exact Nat.le_trans hwlen hsz)) exz_nil
          rw [List.length_map]
          have hp : (0 : Int) < (ws.length : Int) := by omega
          show (if (decide ((0 : Int) ≤ 0) && decide ((0 : Int) < (ws.length : Int))) = true then some (0 : Int).toNat else none) = some 0
          rw [decide_eq_true hp]
          rfl
        · rw [if_neg he]
          have he' : Txt.startswith got (ws.getD 0 nilS) = false := by simpa using he
          refine exz_ret (exsz_if (b := true) (tr_eq (tr_str (ev_local rfl rfl) hwl) htr) (fun _ => ?_) (fun h => by cases h))
          exact exz_ret (exsz_if (b := false) (tr_eq (tr_value (ev_meth (ev_local rfl rfl) (evl_cons (ev_local rfl rfl) evl_nil) ca_startswith (str_is _) PySem.F.plainAttrs_str PySem.F.slot_str_startswith PySem.F.type_str_startswith)) he') (fun h => by cases h) (fun _ => (ex_ret (exs_return ev_bool)).z))
end
end Mine

/-! W10 -/
namespace Mine
set_option linter.unusedVariables false
set_option maxRecDepth 100000

/-! what law 1 computes -/
def wds (D : List Int) : List Str := D.map fun x => prep (spelled x)
def mns (D : List Int) : List Str := D.map meantOf
def vls (D : List Int) : List Int := (mns D).map numOf
def bss (D : List Int) : List Int := (mns D).map fun m => 64 ^ (m.length : Int).toNat
/-- the orders, as places -/
def ords : List (List Nat) := (ordsOf 4).map fun p => match p with
  | .list l => l.map fun q => match q with | .int k => k.toNat | _ => 0
  | _ => []
def natsPV (o : List Nat) : List PV := o.map fun (k : Nat) => PV.int (k : Int)
theorem ords_pv : ordsOf 4 = ords.map fun o => .list (natsPV o) := by rfl
theorem ords_ok4 : (ords.all fun o => o.length == 4 && o.all (· < 4)) = true := by decide
def txt (D : List Int) (o : List Nat) : Str := Txt.join nilS (o.map fun k => (wds D).getD k nilS)
def atS : Str := "@"
def nsOf (t : Str) : List Int := ((atS ++ t).cps.toList.map fun (c : Nat) => (c : Int)) ++ [174]
def readOf (t : Str) : Int := vval (nsOf t) 0 (atS ++ t).length
def rdg (D : List Int) : List Int := ords.map fun o => readOf (txt D o)
def leastI (D : List Int) : Nat := (rdg D).idxOf (minI (rdg D))
def greatI (D : List Int) : Nat := (rdg D).idxOf (maxI (rdg D))
def leastT (D : List Int) : Str := txt D (ords.getD (leastI D) [])
def greatT (D : List Int) : Str := txt D (ords.getD (greatI D) [])
def frontT (D : List Int) : Str := Txt.join nilS ((ords.getD (leastI D) []).map fun k => (mns D).getD k nilS)
def dueStep (D : List Int) (acc : Int) (k : Nat) : Int := acc * (bss D).getD k 0 + (vls D).getD k 0
def due (D : List Int) (o : List Nat) : Int := o.foldl (dueStep D) 0
def gapAt (D : List Int) (o : List Nat) (j : Nat) : Int := (vls D).getD (o.getD j 0) 0 * ((bss D).getD (o.getD (j + 1) 0) 0 - 1) - (vls D).getD (o.getD (j + 1) 0) 0 * ((bss D).getD (o.getD j 0) 0 - 1)
def gaps (D : List Int) (o : List Nat) : List Int := (List.range 3).map (gapAt D o)
def pattern (D : List Int) (o : List Nat) : Str := Txt.join mark (o.map fun k => (wds D).getD k nilS)
def outer (D : List Int) (o : List Nat) : Str := ((wds D).getD (o.getD 0 0) nilS ++ mark) ++ (wds D).getD (o.getD 3 0) nilS
def firstW (D : List Int) (o : List Nat) : Str := (mns D).getD (o.getD 0 0) nilS
def lastW (D : List Int) (o : List Nat) : Str := (mns D).getD (o.getD 3 0) nilS
def fitsB (D : List Int) (o : List Nat) : Bool :=
  (slStr (frontT D) none (some ((firstW D o).length : Int)) == firstW D o) && (slStr (frontT D) (some (((frontT D).length : Int) - ((lastW D o).length : Int))) none == lastW D o)

/-- what the walk asks of the four words -/
structure LawOk (D : List Int) : Prop where
  four : D.length = 4
  prepL : ∀ x ∈ D, ∀ i c, (spelled x)[i]? = some c → (prep ((spelled x).take i)).length + (mapb3 c).length ≤ sizeLine
  num : ∀ m ∈ mns D, NumOk m
  join : ∀ o ∈ ords, JoinOk nilS (o.map fun k => (wds D).getD k nilS) = true
  joinM : JoinOk nilS ((ords.getD (leastI D) []).map fun k => (mns D).getD k nilS) = true
  joinP : ∀ o ∈ ords, JoinOk mark (o.map fun k => (wds D).getD k nilS) = true
  at_ : ∀ o ∈ ords, atS.length + (txt D o).length ≤ 1000
  vok : ∀ o ∈ ords, VOk (nsOf (txt D o)) 0 (atS ++ txt D o).length
  minM : minI (rdg D) ∈ rdg D
  maxM : maxI (rdg D) ∈ rdg D
  lay : (PyData.list ((rdg D).map PyData.int)).layable0 = true
  mul : ∀ a b : Nat, a < 4 → b < 4 → IntMulOk ((vls D).getD a 0) ((bss D).getD b 0 - 1)
  mulD : ∀ (acc : Int) (b : Nat), b < 4 → IntMulOk acc ((bss D).getD b 0)
  wordL : ∀ x ∈ wds D, x.length ≤ 100
  meantL : ∀ x ∈ mns D, x.length ≤ 100
  e1 : ∀ o ∈ ords, EOk (pattern D o) (leastT D) ∧ EOk (pattern D o) (greatT D) ∧ EOk (outer D o) (leastT D)
  frontL : (frontT D).length ≤ 1000
  c1 : ∀ o ∈ ords, readOf (txt D o) = due D o * 64 + 46
  c2 : ∀ o ∈ ords, ellip (pattern D o) (leastT D) = decide (maxI (gaps D o) ≤ 0)
  c3 : ∀ o ∈ ords, ellip (pattern D o) (greatT D) = decide (0 ≤ minI (gaps D o))
  c4 : ∀ o ∈ ords, ellip (outer D o) (leastT D) = fitsB D o

section
variable {prog : Program} {w : World} {τ : TopI} {A : Around} {own : List Str} {env : Env} {ρ : List (Str × PV)}
def lc (env : Env) (x : Str) : Bool := env.kindOf x == some .local || env.kindOf x == some .cell
theorem ev_name {x : Str} {pos : Pos} {p : PV} (hρ : ρ.lookup x = some p) (hk : lc env x = true) (hd : (x == ("__debug__" : Str)) = false := by decide) : Ev prog w τ A env ρ (.Name x pos) p := by
  unfold lc at hk
  rw [Bool.or_eq_true, beq_iff_eq, beq_iff_eq] at hk
  rcases hk with hk | hk
  · exact ev_local hρ hk hd
  · exact ev_cell hρ hk hd
def stoB (own : List Str) (env : Env) (x : Str) : Bool := env.kindOf x == some .local || own.contains x
theorem sto_of {x : Str} (h : stoB own env x = true) : Sto own env x := by
  unfold stoB at h
  rw [Bool.or_eq_true, beq_iff_eq] at h
  rcases h with h | h
  · exact .inl h
  · exact .inr (List.contains_iff_mem.mp h)
end
end Mine

/-! W11 -/
namespace Mine
set_option linter.unusedVariables false
set_option maxRecDepth 100000

def backN : PV → List Nat
  | .list l => l.map fun q => match q with | .int k => k.toNat | _ => 0
  | _ => []
theorem backN_nats (o : List Nat) : backN (.list (natsPV o)) = o := by
  show (o.map fun (k : Nat) => PV.int (k : Int)).map _ = o
  rw [List.map_map]
  conv => rhs; rw [← List.map_id o]
  refine List.map_congr_left fun k _ => ?_
  simp

section
variable {prog : Program} {w : World} {τ : TopI} {A : Around} {own : List Str} {env : Env} {ρ : List (Str × PV)}
/-- words picked by places -/
theorem ev_pick {iter : Expr} {lv x : Str} {p1 p2 p3 px pos : Pos} {scope : Scope} {o : List Nat} {ws : List Str} (hit : It prog w τ A env ρ iter (natsPV o)) (ho : ∀ k ∈ o, k < ws.length) (hlv : ρ.lookup lv = some (.list (ws.map .str))) (hne : (lv == x) = false)
    (hx : scope.names.lookup x = some .local) (ok : compOk scope env ρ x = true) (hkind : scope.kind = .function) (hk1 : ∀ C cs, lc (compEnvC scope cs C env) lv = true) (hk2 : ∀ C cs, lc (compEnvC scope cs C env) x = true) (hA : A.handled = none) (hsz : o.length ≤ 1000)
    (hw : ws.length ≤ 1000) (hs : ∀ v, foldedSetIterable iter env v = pure v := by intro _; rfl) (hd : (lv == ("__debug__" : Str)) = false := by decide) (hd' : (x == ("__debug__" : Str)) = false := by decide) :
    Ev prog w τ A env ρ (.ListComp (.Subscript (.Name lv p1) (.Name x p2) p3) [⟨.Name x px, iter, [], 0⟩] scope pos) (.list ((o.map fun k => ws.getD k nilS).map .str)) := by
  have h1000 : (1000 : Nat) ≤ sizeLine := by decide
  refine ev_eq (ev_map (fun p => match p with | .int k => .str (ws.getD k.toNat nilS) | _ => .none) hit (.inl hx) ok hkind (fun p hp C cs => ?_) hA (by unfold natsPV; rw [List.length_map]; exact Nat.le_trans hsz h1000) hs) ?_
  · unfold natsPV at hp
    obtain ⟨k, hk, rfl⟩ := List.mem_map.mp hp
    have hkl := ho k hk
    refine ev_sub (ev_name (p := .list (ws.map .str)) (by rw [List.lookup_cons, hne]; exact hlv) (hk1 C cs) hd) (ev_name (p := .int (k : Int)) (by rw [List.lookup_cons, beq_self_eq_true]) (hk2 C cs) hd') (gi_list (by omega) (by omega) ?_)
    have : ((k : Int)).toNat = k := by omega
    rw [this]
    exact strs_nth hkl
  · unfold natsPV
    rw [List.map_map, List.map_map]
    congr 1
end

/-- the ground of law 1 -/
structure G1 (w : World) (τ : TopI) where
  aV : Addr
  aE : Addr
  aI : Addr
  aM : Addr
  aD : Addr
  aSp : Addr
  aMe : Addr
  aP : Addr
  aN : Addr
  aO : Addr
  aL : Addr
  aS : Addr
  aT : Addr
  tm : Tok
  nob : NoB τ
  V : FnAt τ Pg 1 "_parse_varint" aV
  E : FnAt τ Pg 4 "_ellipsis_match" aE
  I : FnAt τ Pg 7 "in_table_b1" aI
  M : FnAt τ Pg 9 "map_table_b3" aM
  D : FnAt τ Pg 11 "_law_drawn" aD
  Sp : FnAt τ Pg 12 "_law_spelled" aSp
  Me : FnAt τ Pg 13 "_law_meant" aMe
  P : FnAt τ Pg 14 "_law_prepared" aP
  N : FnAt τ Pg 15 "_law_number" aN
  O : FnAt τ Pg 16 "_law_orders" aO
  L : FnAt τ Pg 17 "law" aL
  mark : τ.mg "ELLIPSIS_MARKER" = some (.str mark tm)
  S : τ.mg "b1_set" = some (.ref aS)
  fS : ∀ h, τ.T h → ∃ n, h.SetOf (intKind Pg w) aS (memb hidden) n
  T : τ.mg "b3_exceptions" = some (.ref aT)
  low : (aT == sysModules) = false
  fT : ∀ h, τ.T h → ∃ kvs, h.DictOf (intKind Pg w) aT kvs ∧ Sts kvs (tabAt Pg 8)

section
variable {w : World} {τ : TopI} {A : Around} {k : Nat}
abbrev lenv (a L : Addr) (cd : Value) (cells : List (Str × Addr)) : Env := fenv (dAt Pg 17).name (dAt Pg 17).scope a L cd cells
abbrev lown : List Str := ownOf (dAt Pg 17).scope
/-- the frame before the last loop -/
def lρ (D : List Int) : List (Str × PV) := [("front", .str (frontT D)), ("greatest", .str (greatT D)), ("least", .str (leastT D)), ("read", .list ((rdg D).map .int)), ("orders", .list (ords.map fun o => .list (natsPV o))),
  ("bases", .list ((bss D).map .int)), ("values", .list ((vls D).map .int)), ("meant", .list ((mns D).map .str)), ("words", .list ((wds D).map .str))]

theorem cat_len {a b : Str} {n m : Nat} (ha : a.length ≤ n) (hb : b.length ≤ m) (h : n + m ≤ sizeLine) : a.length + b.length ≤ sizeLine := Nat.le_trans (Nat.add_le_add ha hb) h

theorem ord_facts {o : List Nat} (ho : o ∈ ords) : o.length = 4 ∧ ∀ k ∈ o, k < 4 := by
  have := List.all_eq_true.mp ords_ok4 o ho
  rw [Bool.and_eq_true, beq_iff_eq] at this
  exact ⟨this.1, fun k hk => by simpa using List.all_eq_true.mp this.2 k hk⟩
theorem nats_at {o : List Nat} {i : Nat} (h : i < o.length) : (natsPV o)[i]? = some (.int (o.getD i 0)) := by
  unfold natsPV
  rw [List.getElem?_map, List.getElem?_eq_getElem h, Option.map_some, List.getD_eq_getElem?_getD, List.getElem?_eq_getElem h]; rfl
theorem getD_ord {o : List Nat} (ho : o ∈ ords) {i : Nat} (hi : i < 4) : o.getD i 0 < 4 := by
  obtain ⟨h1, h2⟩ := ord_facts ho
  rw [List.getD_eq_getElem?_getD, List.getElem?_eq_getElem (by omega)]
  exact h2 _ (List.getElem_mem _)
end
end Mine

/-! W12 -/
namespace Mine
set_option linter.unusedVariables false
set_option maxRecDepth 100000
theorem bss_len {D : List Int} (h : D.length = 4) : (bss D).length = 4 ∧ (vls D).length = 4 ∧ (mns D).length = 4 ∧ (wds D).length = 4 := by
  unfold bss vls mns wds
  simp [h]
section
variable {w : World} {τ : TopI} {A : Around} {k : Nat}
def forBody (d : DefRec) (i : Nat) : List Stmt := match d.body[i]? with
  | some (.For _ _ body _ _) => body
  | _ => []
/-- one turn of the last loop -/
theorem law_turn {D : List Int} (g : G1 w τ) (ok : LawOk D) (hR : Room (k + 3) A) {a L : Addr} {cd : Value} {cells : List (Str × Addr)} {o : List Nat} (ho : o ∈ ords) :
    Ex Pg w τ A lown (lenv a L cd cells) (("told", .int (readOf (txt D o))) :: ("order", .list (natsPV o)) :: lρ D) (forBody (dAt Pg 17) 11) (.next (lρ D)) := by
  obtain ⟨b4, v4, m4, w4⟩ := bss_len ok.four
  obtain ⟨o4, olt⟩ := ord_facts ho
  have hA := hR.handled
  have h1000 : (1000 : Nat) ≤ sizeLine := by decide
  have wl : ∀ i, i < 4 → ((wds D).getD i nilS).length ≤ 100 := fun i hi => by
    rw [List.getD_eq_getElem?_getD, List.getElem?_eq_getElem (by omega)]; exact ok.wordL _ (List.getElem_mem _)
  have ml : ∀ i, i < 4 → ((mns D).getD i nilS).length ≤ 100 := fun i hi => by
    rw [List.getD_eq_getElem?_getD, List.getElem?_eq_getElem (by omega)]; exact ok.meantL _ (List.getElem_mem _)
  -- due
  refine ex_cons (exs_assign ev_int (.inl rfl)) ?_
  refine ex_pre (ρ₁ := ("due", .int ((o.take 0).foldl (dueStep D) 0)) :: ("told", .int (readOf (txt D o))) :: ("order", .list (natsPV o)) :: lρ D) ?_ (Sub.at (by repeat (first | exact .nil | refine .cons rfl ?_)))
  refine ex_cons (exs_for (items := natsPV o) (fun i => ("due", .int ((o.take i).foldl (dueStep D) 0)) :: ("told", .int (readOf (txt D o))) :: ("order", .list (natsPV o)) :: lρ D) (it_list (ev_name rfl rfl)) (.inl rfl) rfl (fun i p hp => ?_) hA (by rfl)) ?_
  · obtain ⟨kk, hk, rfl⟩ : ∃ kk, o[i]? = some kk ∧ PV.int (kk : Int) = p := by
      unfold natsPV at hp
      rw [List.getElem?_map] at hp
      exact Option.map_eq_some_iff.mp hp
    have hk4 := olt kk (List.mem_of_getElem? hk)
    have hnext : (o.take (i + 1)).foldl (dueStep D) 0 = dueStep D ((o.take i).foldl (dueStep D) 0) kk := by
      rw [take_succ_get hk, List.foldl_append]; rfl
    have hkn : ((kk : Int)).toNat = kk := by omega
    refine ex_sub (ex_cons (exs_assign (p := .int (dueStep D ((o.take i).foldl (dueStep D) 0) kk)) (ev_bin (ev_bin (ev_name rfl rfl) (ev_sub (ev_name rfl rfl) (ev_name rfl rfl) (gi_list (by omega) (by omega) (by rw [hkn]; exact ints_at (by omega)))) (bo_mul (ok.mulD _ _ hk4))) (ev_sub (ev_name rfl rfl) (ev_name rfl rfl) (gi_list (by omega) (by omega) (by rw [hkn]; exact ints_at (by omega)))) bo_add) (.inl rfl)) ex_nil)
      (.cons (by rw [hnext]; rfl) (by repeat (first | exact .nil | refine .cons rfl ?_)))
  have ordAt : ∀ i, i < 4 → (natsPV o)[i]? = some (.int (o.getD i 0)) := fun i hi => nats_at (by omega)
  have o4' : ∀ i, i < 4 → o.getD i 0 < 4 := fun i hi => getD_ord ho hi
  have lenP : (natsPV o).length = 4 := by unfold natsPV; rw [List.length_map]; exact o4
  have hdue : (o.take (natsPV o).length).foldl (dueStep D) 0 = due D o := by
    rw [lenP, ← o4, List.take_length]; rfl
  rw [hdue]
  -- told
  refine ex_cons (exs_if (b := false) (o := .next _) (tr_eq (tr_cmp (ev_name rfl rfl) (ev_bin (ev_bin (ev_name rfl rfl) ev_int (bo_mul (IntMulOk.of_right (by decide)))) ev_int bo_add) co_ne) (by rw [ok.c1 o ho]; simp)) (fun h => by cases h) (fun _ => ex_nil)) ?_
  -- gaps
  refine ex_cons (exs_comp (items := rng 0 3) (fun p => match p with | .int j => .int (gapAt D o j.toNat) | _ => .none) (fun _ => true) (it_range1 (n := 3) ev_int (by decide) rfl (g.nob _ (by decide)) (by decide +kernel) (by decide)) (.inl rfl) (by rfl) rfl (fun p hp C cs => tst_nil) (fun p hp _ C cs => ?_) hA (by decide) (.inl rfl)) ?_
  · unfold rng at hp
    obtain ⟨j, hj, rfl⟩ := List.mem_map.mp hp
    have hj3 := List.mem_range.mp hj
    have e0 : (0 + (j : Int)) = (j : Int) := by omega
    have e1 : ((j : Int)).toNat = j := by omega
    have e2 : ((j : Int) + 1).toNat = j + 1 := by omega
    rw [e0]
    have i1 := o4' j (by omega)
    have i2 := o4' (j + 1) (by omega)
    have gi1 : ∀ {l : List Int}, l.length = 4 → ∀ i, i < 4 → Gi Pg w A (.list (l.map .int)) (.int ((o.getD i 0 : Nat) : Int)) (.int (l.getD (o.getD i 0) 0)) := fun {l} hl i hi => gi_list (by omega) (by have := o4' i hi; omega) (by
      have : (((o.getD i 0 : Nat) : Int)).toNat = o.getD i 0 := by omega
      rw [this]; exact ints_at (by have := o4' i hi; omega))
    have gj : Gi Pg w A (.list (natsPV o)) (.int (j : Int)) (.int ((o.getD j 0 : Nat) : Int)) := gi_list (by omega) (by omega) (by rw [e1]; exact ordAt j (by omega))
    have gj1 : Gi Pg w A (.list (natsPV o)) (.int ((j : Int) + 1)) (.int ((o.getD (j + 1) 0 : Nat) : Int)) := gi_list (by omega) (by omega) (by rw [e2]; exact ordAt (j + 1) (by omega))
    show Ev Pg w τ A _ _ _ (.int (gapAt D o (j : Int).toNat))
    rw [e1]
    exact ev_bin (ev_bin (ev_sub (ev_name rfl rfl) (ev_sub (ev_name rfl rfl) (ev_name rfl rfl) gj) (gi1 v4 j (by omega))) (ev_bin (ev_sub (ev_name rfl rfl) (ev_sub (ev_name rfl rfl) (ev_bin (ev_name rfl rfl) ev_int bo_add) gj1) (gi1 b4 (j + 1) (by omega))) ev_int bo_sub) (bo_mul (ok.mul _ _ i1 i2)))
      (ev_bin (ev_sub (ev_name rfl rfl) (ev_sub (ev_name rfl rfl) (ev_bin (ev_name rfl rfl) ev_int bo_add) gj1) (gi1 v4 (j + 1) (by omega))) (ev_bin (ev_sub (ev_name rfl rfl) (ev_sub (ev_name rfl rfl) (ev_name rfl rfl) gj) (gi1 b4 j (by omega))) ev_int bo_sub) (bo_mul (ok.mul _ _ i2 i1))) bo_sub
  have hg : ((rng 0 3).filter fun _ => true).map (fun p => match p with | .int j => PV.int (gapAt D o j.toNat) | _ => .none) = (gaps D o).map .int := by
    rw [List.filter_eq_self.mpr (fun _ _ => rfl)]
    unfold gaps rng
    rw [List.map_map, List.map_map]
    refine List.map_congr_left fun j _ => ?_
    show PV.int (gapAt D o (0 + (j : Int)).toNat) = PV.int (gapAt D o j)
    have : (0 + (j : Int)).toNat = j := by omega
    rw [this]
  rw [hg]
  have glen : 0 < (gaps D o).length := by unfold gaps; simp
  -- pattern
  refine ex_cons (exs_assign (p := .str (pattern D o)) (ev_meth ev_str (evl_cons (ev_pick (o := o) (ws := wds D) (it_list (ev_name rfl rfl)) (fun k hk => by have := olt k hk; omega) rfl rfl rfl (by rfl) rfl (fun _ _ => rfl) (fun _ _ => rfl) hA (by omega) (by omega)) evl_nil) (ca_join (ok.joinP o ho)) (str_is _) PySem.F.plainAttrs_str PySem.F.slot_str_join PySem.F.type_str_join) (.inl rfl)) ?_
  obtain ⟨k1, k2, k3⟩ := ok.e1 o ho
  refine ex_cons (exs_if (b := false) (o := .next _) (tr_eq (tr_cmp (ev_fn (evl_cons (ev_name rfl rfl) (evl_cons (ev_name rfl rfl) evl_nil)) (c_ellip (k := k + 2) hR g.nob g.E g.mark k1) rfl g.E.mg g.E.fn.isFn) (ev_cmp (ev_builtin (evl_cons (ev_name rfl rfl) evl_nil) (ca_max hA glen) rfl (g.nob _ (by decide)) (by decide +kernel) (by decide)) ev_int co_le) co_isnot) (by rw [ok.c2 o ho]; simp)) (fun h => by cases h) (fun _ => ex_nil)) ?_
  refine ex_cons (exs_if (b := false) (o := .next _) (tr_eq (tr_cmp (ev_fn (evl_cons (ev_name rfl rfl) (evl_cons (ev_name rfl rfl) evl_nil)) (c_ellip (k := k + 2) hR g.nob g.E g.mark k2) rfl g.E.mg g.E.fn.isFn) (ev_cmp (ev_builtin (evl_cons (ev_name rfl rfl) evl_nil) (ca_min hA glen) rfl (g.nob _ (by decide)) (by decide +kernel) (by decide)) ev_int co_ge) co_isnot) (by rw [ok.c3 o ho]; simp)) (fun h => by cases h) (fun _ => ex_nil)) ?_
  have g0 : Gi Pg w A (.list (natsPV o)) (.int 0) (.int ((o.getD 0 0 : Nat) : Int)) := gi_list (by decide) (by decide) (ordAt 0 (by omega))
  have g3 : Gi Pg w A (.list (natsPV o)) (.int 3) (.int ((o.getD 3 0 : Nat) : Int)) := gi_list (by decide) (by decide) (ordAt 3 (by omega))
  have gw : ∀ {l : List Str}, l.length = 4 → ∀ i, i < 4 → Gi Pg w A (.list (l.map .str)) (.int ((o.getD i 0 : Nat) : Int)) (.str (l.getD (o.getD i 0) nilS)) := fun {l} hl i hi => gi_list (by omega) (by have := o4' i hi; omega) (by
      have : (((o.getD i 0 : Nat) : Int)).toNat = o.getD i 0 := by omega
      rw [this]; exact strs_nth (by have := o4' i hi; omega))
  refine ex_cons (exs_assign (p := .str (firstW D o)) (ev_sub (ev_name rfl rfl) (ev_sub (ev_name rfl rfl) ev_int g0) (gw m4 0 (by omega))) (.inl rfl)) ?_
  refine ex_cons (exs_assign (p := .str (lastW D o)) (ev_sub (ev_name rfl rfl) (ev_sub (ev_name rfl rfl) ev_int g3) (gw m4 3 (by omega))) (.inl rfl)) ?_
  have fl : (frontT D).length ≤ sizeLine := Nat.le_trans ok.frontL h1000
  have l1 : (firstW D o).length ≤ sizeLine := Nat.le_trans (ml _ (o4' 0 (by omega))) (by decide)
  have l2 : (lastW D o).length ≤ sizeLine := Nat.le_trans (ml _ (o4' 3 (by omega))) (by decide)
  refine ex_cons (exs_assign (p := .bool (fitsB D o)) (ev_and2 (ev_cmp (ev_slice_str (ev_name rfl rfl) evo_none (evo_some (ev_builtin (evl_cons (ev_name rfl rfl) evl_nil) (ca_len_str l1) rfl (g.nob _ (by decide)) (by decide +kernel) (by decide))) fl) (ev_name rfl rfl) co_eqs)
    (fun _ => ev_cmp (ev_slice_str (ev_name rfl rfl) (evo_some (ev_bin (ev_builtin (evl_cons (ev_name rfl rfl) evl_nil) (ca_len_str fl) rfl (g.nob _ (by decide)) (by decide +kernel) (by decide)) (ev_builtin (evl_cons (ev_name rfl rfl) evl_nil) (ca_len_str l2) rfl (g.nob _ (by decide)) (by decide +kernel) (by decide)) bo_sub)) evo_none fl) (ev_name rfl rfl) co_eqs)) (.inl rfl)) ?_
  refine ex_sub (ex_cons (exs_if (b := false) (o := .next _) (tr_eq (tr_cmp (ev_fn (evl_cons (p := .str (outer D o)) (ev_bin (ev_bin (ev_sub (ev_name rfl rfl) (ev_sub (ev_name rfl rfl) ev_int g0) (gw w4 0 (by omega))) ev_str (bo_cat (cat_len (wl _ (o4' 0 (by omega))) (m := 3) (by decide) (by decide)))) (ev_sub (ev_name rfl rfl) (ev_sub (ev_name rfl rfl) ev_int g3) (gw w4 3 (by omega))) (bo_cat ?_)) (evl_cons (ev_name rfl rfl) evl_nil)) (c_ellip (k := k + 2) hR g.nob g.E g.mark k3) rfl g.E.mg g.E.fn.isFn) (ev_name rfl rfl) co_isnot) (by rw [ok.c4 o ho]; simp)) (fun h => by cases h) (fun _ => ex_nil)) ex_nil) (by repeat (first | exact .nil | refine .cons rfl ?_))
  have hcat : ((wds D).getD (o.getD 0 0) nilS ++ mark).length = ((wds D).getD (o.getD 0 0) nilS).length + mark.length := Array.size_append
  have e1 := wl _ (o4' 0 (by omega))
  have e2 := wl _ (o4' 3 (by omega))
  have e3 : mark.length = 3 := by decide
  have e4 : sizeLine = 16777216 := by decide
  show ((wds D).getD (o.getD 0 0) nilS ++ mark).length + ((wds D).getD (o.getD 3 0) nilS).length ≤ sizeLine
  rw [hcat, e3, e4]
  omega
end
end Mine

/-! W13 -/
namespace Mine
set_option linter.unusedVariables false
set_option maxRecDepth 100000
theorem ord_mem {i : Nat} (h : i < ords.length) : ords.getD i [] ∈ ords := by
  rw [List.getD_eq_getElem?_getD, List.getElem?_eq_getElem h]; exact List.getElem_mem h
theorem getD_map {α β : Type} (l : List α) (f : α → β) (i : Nat) (d : α) (e : β) (h : i < l.length) : (l.map f).getD i e = f (l.getD i d) := by
  rw [List.getD_eq_getElem?_getD, List.getD_eq_getElem?_getD, List.getElem?_map, List.getElem?_eq_getElem h]; rfl
def readPV : PV → PV
  | .str t => .int (readOf t)
  | _ => .none
theorem filt {l : List PV} {f : PV → PV} : (l.filter fun _ => true).map f = l.map f := by rw [List.filter_eq_self.mpr (fun _ _ => rfl)]
section
variable {w : World} {τ : TopI} {A : Around} {k : Nat}
set_option maxHeartbeats 2000000 in
theorem c_law {xs : List Int} (g : G1 w τ) (hxs : xs.length ≤ 63) (ok : LawOk (drawn1 xs)) (hR : Room (k + 4) A) : Ca Pg w τ A (.ref g.aL) [.list (xs.map .int)] (.bool true) := by
  refine ca_def (k := k + 3) hR g.L.fn ["script"] rfl (fun pm cd doc vs hv => ?_) (by decide) (by decide +kernel) (by decide +kernel) (fun A' L cd cells hR' => ?_)
  · obtain ⟨v, rfl⟩ := vs1 hv
    rfl
  · generalize hD : drawn1 xs = D at ok
    have hA := hR'.handled
    obtain ⟨b4, v4, m4, w4⟩ := bss_len ok.four
    have h1000 : (1000 : Nat) ≤ sizeLine := by decide
    have ordsL : ords.length = 24 := by decide
    have rdgL : (rdg D).length = 24 := by unfold rdg; rw [List.length_map]; exact ordsL
    have li : leastI D < ords.length := by rw [ordsL, ← rdgL]; exact List.idxOf_lt_length_of_mem ok.minM
    have gi : greatI D < ords.length := by rw [ordsL, ← rdgL]; exact List.idxOf_lt_length_of_mem ok.maxM
    -- drawn
    refine ex_cons (exs_assign (p := .list (D.map .int)) (ev_fn (evl_cons (ev_name rfl rfl) evl_nil) (hD ▸ c_drawn (k := k + 2) hR' g.nob g.D hxs) rfl g.D.mg g.D.fn.isFn) (.inl rfl)) ?_
    -- words
    refine ex_cons (exs_assign (p := .list ((wds D).map .str)) (ev_eq (ev_map (fun p => match p with | .int x => .str (prep (spelled x)) | _ => .none) (it_list (ev_name rfl rfl)) (.inl rfl) (by rfl) rfl (fun p hp C cs => ?_) hA (by rw [List.length_map, ok.four]; decide)) ?_) (sto_of rfl)) ?_
    · obtain ⟨x, hx, rfl⟩ := List.mem_map.mp hp
      exact ev_fn (evl_cons (ev_fn (evl_cons (ev_name rfl rfl) evl_nil) (c_spelled (k := k + 2) hR' g.nob g.Sp) rfl g.Sp.mg g.Sp.fn.isFn) evl_nil) (c_prepared (k := k + 1) hR' g.nob g.P g.I g.S g.fS g.M g.T g.low g.fT (ok.prepL x hx)) rfl g.P.mg g.P.fn.isFn
    · unfold wds
      rw [List.map_map, List.map_map]
      congr 1
    -- meant
    refine ex_cons (exs_assign (p := .list ((mns D).map .str)) (ev_eq (ev_map (fun p => match p with | .int x => .str (meantOf x) | _ => .none) (it_list (ev_name rfl rfl)) (.inl rfl) (by rfl) rfl (fun p hp C cs => ?_) hA (by rw [List.length_map, ok.four]; decide)) ?_) (sto_of rfl)) ?_
    · obtain ⟨x, hx, rfl⟩ := List.mem_map.mp hp
      exact ev_fn (evl_cons (ev_name rfl rfl) evl_nil) (c_meant (k := k + 2) hR' g.nob g.Me) rfl g.Me.mg g.Me.fn.isFn
    · unfold mns
      rw [List.map_map, List.map_map]
      congr 1
    -- values
    refine ex_cons (exs_assign (p := .list ((vls D).map .int)) (ev_eq (ev_map (fun p => match p with | .str m => .int (numOf m) | _ => .none) (it_list (ev_name rfl rfl)) (.inl rfl) (by rfl) rfl (fun p hp C cs => ?_) hA (by rw [List.length_map, m4]; decide)) ?_) (sto_of rfl)) ?_
    · obtain ⟨m, hm, rfl⟩ := List.mem_map.mp hp
      exact ev_fn (evl_cons (ev_name rfl rfl) evl_nil) (c_number (k := k + 2) hR' g.nob g.N (ok.num m hm)) rfl g.N.mg g.N.fn.isFn
    · unfold vls
      rw [List.map_map, List.map_map]
      congr 1
    -- bases
    refine ex_cons (exs_assign (p := .list ((bss D).map .int)) (ev_eq (ev_map (fun p => match p with | .str m => .int (64 ^ (m.length : Int).toNat) | _ => .none) (it_list (ev_name rfl rfl)) (.inl rfl) (by rfl) rfl (fun p hp C cs => ?_) hA (by rw [List.length_map, m4]; decide)) ?_) (sto_of rfl)) ?_
    · obtain ⟨m, hm, rfl⟩ := List.mem_map.mp hp
      have hml := ok.meantL m hm
      exact ev_bin ev_int (ev_builtin (evl_cons (ev_name rfl rfl) evl_nil) (ca_len_str (Nat.le_trans hml (by decide))) rfl (g.nob _ (by decide)) (by decide +kernel) (by decide)) (bo_pow (by omega) (by omega) (by decide))
    · unfold bss
      rw [List.map_map, List.map_map]
      congr 1
    -- orders
    refine ex_cons (exs_assign (p := .list (ords.map fun o => .list (natsPV o))) (ev_eq (ev_fn (evl_cons ev_int evl_nil) (c_orders (k := k + 2) hR' g.nob g.O) rfl g.O.mg g.O.fn.isFn) (by rw [ords_pv])) (.inl rfl)) ?_
    -- texts
    refine ex_cons (exs_comp (items := ords.map fun o => .list (natsPV o)) (fun p => .str (txt D (backN p))) (fun _ => true) (it_list (ev_name rfl rfl)) (.inl rfl) (by rfl) rfl (fun p hp C cs => tst_nil) (fun p hp _ C cs => ?_) hA (by decide) (.inl rfl)) ?_
    · obtain ⟨o, ho, rfl⟩ := List.mem_map.mp hp
      obtain ⟨o4, olt⟩ := ord_facts ho
      rw [backN_nats]
      exact ev_meth ev_str (evl_cons (ev_pick (o := o) (ws := wds D) (it_list (ev_name rfl rfl)) (fun k hk => by have := olt k hk; omega) rfl rfl rfl (by rfl) rfl (fun _ _ => rfl) (fun _ _ => rfl) hA (by omega) (by omega)) evl_nil) (ca_join (ok.join o ho)) (str_is _) PySem.F.plainAttrs_str PySem.F.slot_str_join PySem.F.type_str_join
    rw [filt, show (ords.map fun o => PV.list (natsPV o)).map (fun p => PV.str (txt D (backN p))) = (ords.map (txt D)).map .str by
      rw [List.map_map, List.map_map]
      refine List.map_congr_left fun o _ => ?_
      show PV.str (txt D (backN (.list (natsPV o)))) = PV.str (txt D o)
      rw [backN_nats]]
    -- read
    refine ex_cons (exs_comp (items := (ords.map (txt D)).map .str) readPV (fun _ => true) (it_list (ev_name rfl rfl)) (.inl rfl) (by rfl) rfl (fun p hp C cs => tst_nil) (fun p hp _ C cs => ?_) hA (by rw [List.length_map, List.length_map, ordsL]; decide) (.inl rfl)) ?_
    · obtain ⟨t, ht, rfl⟩ := List.mem_map.mp hp
      obtain ⟨o, ho, rfl⟩ := List.mem_map.mp ht
      have hat := ok.at_ o ho
      have hcat : (atS ++ txt D o).length = atS.length + (txt D o).length := Array.size_append
      refine ev_iter_call (k := k + 2) (ns := nsOf (txt D o)) (r := .int (readOf (txt D o))) hR' g.V.fn (fun pm cd doc v => rfl) rfl (by decide) (fun I A'' L' cd' hR'' => k_varint g.nob (ok.vok o ho) g.aV I A'' L' cd' hR'') rfl ?_ rfl g.V.mg rfl (g.nob _ (by decide))
      refine ev_eq (ev_bin (ev_map (fun p => match p with | .str s => .int ((s.cps.getD 0 0 : Nat) : Int) | _ => .none) (it_str (x := atS ++ txt D o) (ev_bin ev_str (ev_name rfl rfl) (bo_cat (Nat.le_trans hat h1000)))) (.inl rfl) (by rfl) rfl (fun p hp C cs => ?_) hA ?_) (ev_list (evl_cons (p := .int 174) (ev_bin ev_int ev_int bo_add) evl_nil) (Nat.le_of_ble_eq_true rfl)) (bo_lists ?_)) ?_
      · obtain ⟨c, hc, rfl⟩ := List.mem_map.mp hp
        exact ev_builtin (evl_cons (ev_name rfl rfl) evl_nil) ca_ord rfl (g.nob _ (by decide)) (by decide +kernel) (by decide)
      · rw [List.length_map, Array.length_toList]
        exact Nat.le_trans (by show (atS ++ txt D o).length ≤ 1000; omega) h1000
      · rw [List.length_map, List.length_map, Array.length_toList]
        have e4 : sizeLine = 16777216 := by decide
        show (atS ++ txt D o).length + 1 ≤ sizeLine
        omega
      · unfold nsOf
        rw [List.map_append, List.map_map, List.map_map]
        congr 1
    rw [filt, show ((ords.map (txt D)).map PV.str).map readPV = (rdg D).map .int by
      unfold rdg
      rw [List.map_map, List.map_map, List.map_map]
      congr 1]
    have txL : (ords.map (txt D)).length = 24 := by rw [List.length_map]; exact ordsL
    have idx : ∀ {l : Nat}, l < 24 → ((l : Int)).toNat = l := fun h => by omega
    have gt : ∀ (l : Nat), l < 24 → Gi Pg w A' (.list ((ords.map (txt D)).map .str)) (.int (l : Int)) (.str (txt D (ords.getD l []))) := fun l hl => gi_list (by omega) (by omega) (by
      rw [idx hl, strs_nth (by omega), getD_map ords (txt D) l [] nilS (by omega)])
    have go : ∀ (l : Nat), l < 24 → Gi Pg w A' (.list (ords.map fun o => .list (natsPV o))) (.int (l : Int)) (.list (natsPV (ords.getD l []))) := fun l hl => gi_list (by omega) (by omega) (by
      rw [idx hl, List.getElem?_map, List.getElem?_eq_getElem (by omega), Option.map_some, List.getD_eq_getElem?_getD, List.getElem?_eq_getElem (by omega)]; rfl)
    have rpos : 0 < (rdg D).length := by omega
    -- least, greatest, front
    refine ex_cons (exs_assign (p := .str (leastT D)) (ev_sub (ev_name rfl rfl) (ev_meth (ev_name rfl rfl) (evl_cons (ev_builtin (evl_cons (ev_name rfl rfl) evl_nil) (ca_min hA rpos) rfl (g.nob _ (by decide)) (by decide +kernel) (by decide)) evl_nil) (ca_index ok.minM ok.lay) (list_is _) PySem.F.plainAttrs_list PySem.F.slot_list_index PySem.F.type_list_index) (gt (leastI D) (by omega))) (.inl rfl)) ?_
    refine ex_cons (exs_assign (p := .str (greatT D)) (ev_sub (ev_name rfl rfl) (ev_meth (ev_name rfl rfl) (evl_cons (ev_builtin (evl_cons (ev_name rfl rfl) evl_nil) (ca_max hA rpos) rfl (g.nob _ (by decide)) (by decide +kernel) (by decide)) evl_nil) (ca_index ok.maxM ok.lay) (list_is _) PySem.F.plainAttrs_list PySem.F.slot_list_index PySem.F.type_list_index) (gt (greatI D) (by omega))) (.inl rfl)) ?_
    have hof := ord_facts (ord_mem li)
    refine ex_cons (exs_assign (p := .str (frontT D)) (ev_meth ev_str (evl_cons (ev_pick (o := ords.getD (leastI D) []) (ws := mns D) (it_list (ev_sub (ev_name rfl rfl) (ev_meth (ev_name rfl rfl) (evl_cons (ev_builtin (evl_cons (ev_name rfl rfl) evl_nil) (ca_min hA rpos) rfl (g.nob _ (by decide)) (by decide +kernel) (by decide)) evl_nil) (ca_index ok.minM ok.lay) (list_is _) PySem.F.plainAttrs_list PySem.F.slot_list_index PySem.F.type_list_index) (go (leastI D) (by omega)))) (fun k hk => by have := hof.2 k hk; omega) rfl rfl rfl (by rfl) rfl (fun _ _ => rfl) (fun _ _ => rfl) hA (by have := hof.1; omega) (by omega)) evl_nil) (ca_join ok.joinM) (str_is _) PySem.F.plainAttrs_str PySem.F.slot_str_join PySem.F.type_str_join) (.inl rfl)) ?_
    refine ex_pre (ρ₁ := lρ D) ?_ (Sub.at (by repeat (first | exact .nil | refine .cons rfl ?_)))
    refine ex_cons (exs_forU (xs := ["order", "told"]) (items := ((ords.map fun o => PV.list (natsPV o)).zip ((rdg D).map .int)).map fun p => [p.1, p.2]) (fun _ => lρ D) (itU_zip (evl_cons (ev_name rfl rfl) (evl_cons (ev_name rfl rfl) evl_nil)) rfl (g.nob _ (by decide)) (by decide +kernel)) (.cons (sto_of rfl) (.cons (sto_of rfl) .nil)) rfl (fun ps hps => ?_) (fun i ps hp => ?_) hA (by rfl) (by intro _; rfl)) ?_
    · obtain ⟨p, _, rfl⟩ := List.mem_map.mp hps; rfl
    · have hi : i < 24 := by
        have := (List.getElem?_eq_some_iff.mp hp).1
        rw [List.length_map, List.length_zip, List.length_map, List.length_map, ordsL, rdgL] at this
        omega
      have hps : ps = [.list (natsPV (ords.getD i [])), .int (readOf (txt D (ords.getD i [])))] := by
        unfold rdg at hp
        rw [List.map_map, List.zip_map', List.map_map, List.getElem?_map, List.getElem?_eq_getElem (by omega), Option.map_some] at hp
        have e : ords.getD i [] = ords[i]'(by omega) := by rw [List.getD_eq_getElem?_getD, List.getElem?_eq_getElem (by omega)]; rfl
        rw [e, ← Option.some.inj hp]
        rfl
      subst hps
      exact law_turn g ok hR' (ord_mem (by omega))
    · exact ex_ret (exs_return ev_bool)
end
end Mine

/-! X1 -/
namespace Mine
set_option linter.unusedVariables false
set_option maxRecDepth 100000

theorem fn_at {w : World} {mg mb : Str → Option Value} {h₁ : Heap} {hg : h₁.Ns mainGlobals mg} {hb : h₁.Ns builtinsNs mb} {hblt : ∀ x : Str, x ≠ "__name__" → mb x = bootBuiltins x} {hc : h₁.Ns cStatics (fun _ => none)} {p : Program} {i : Nat} {n : Str} {Pl : Addr}
    (h : ∃ v, mg n = some v ∧ SFn Pl (dAt p i) h₁ v) : ∃ a, FnAt (ground mg mb h₁ hg hb hblt hc) p i n a := by
  obtain ⟨v, hv, a, o, pm, cd, doc, rfl, ho, hd, hcr, _⟩ := h
  exact ⟨a, hv, fun h (T : Stay h₁ h) => ⟨o, pm, .ref cd, doc, T _ _ ho, hd, hcr.at fun o e => T _ _ e⟩⟩

theorem ground1 {w : World} {mg mb : Str → Option Value} {h₁ : Heap} {hg : h₁.Ns mainGlobals mg} {hb : h₁.Ns builtinsNs mb} {hblt : ∀ x : Str, x ≠ "__name__" → mb x = bootBuiltins x} {hc : h₁.Ns cStatics (fun _ => none)} {Pl : Addr}
    (facts : ∀ n S, (topG w Pl).lookup n = some S → ∃ v, mg n = some v ∧ S h₁ v) (others : ∀ x, (∀ p ∈ topG w Pl, p.1 ≠ x) → x ∉ bootMainNames → mg x = none) (hlow : sysModules < Pl) : Nonempty (G1 w (ground mg mb h₁ hg hb hblt hc)) := by
  obtain ⟨aV, V⟩ := fn_at (w := w) (hg := hg) (hb := hb) (hblt := hblt) (hc := hc) (facts "_parse_varint" _ rfl)
  obtain ⟨aE, E⟩ := fn_at (w := w) (hg := hg) (hb := hb) (hblt := hblt) (hc := hc) (facts "_ellipsis_match" _ rfl)
  obtain ⟨aI, I⟩ := fn_at (w := w) (hg := hg) (hb := hb) (hblt := hblt) (hc := hc) (facts "in_table_b1" _ rfl)
  obtain ⟨aM, M⟩ := fn_at (w := w) (hg := hg) (hb := hb) (hblt := hblt) (hc := hc) (facts "map_table_b3" _ rfl)
  obtain ⟨aD, D⟩ := fn_at (w := w) (hg := hg) (hb := hb) (hblt := hblt) (hc := hc) (facts "_law_drawn" _ rfl)
  obtain ⟨aSp, Sp⟩ := fn_at (w := w) (hg := hg) (hb := hb) (hblt := hblt) (hc := hc) (facts "_law_spelled" _ rfl)
  obtain ⟨aMe, Me⟩ := fn_at (w := w) (hg := hg) (hb := hb) (hblt := hblt) (hc := hc) (facts "_law_meant" _ rfl)
  obtain ⟨aP, P⟩ := fn_at (w := w) (hg := hg) (hb := hb) (hblt := hblt) (hc := hc) (facts "_law_prepared" _ rfl)
  obtain ⟨aN, N⟩ := fn_at (w := w) (hg := hg) (hb := hb) (hblt := hblt) (hc := hc) (facts "_law_number" _ rfl)
  obtain ⟨aO, O⟩ := fn_at (w := w) (hg := hg) (hb := hb) (hblt := hblt) (hc := hc) (facts "_law_orders" _ rfl)
  obtain ⟨aL, L⟩ := fn_at (w := w) (hg := hg) (hb := hb) (hblt := hblt) (hc := hc) (facts "law" _ rfl)
  obtain ⟨_, hm, tm, rfl⟩ := facts "ELLIPSIS_MARKER" _ rfl
  obtain ⟨_, hS, aS, nS, rfl, fS, _⟩ := facts "b1_set" _ rfl
  obtain ⟨_, hT, aT, kvs, rfl, fT, fs, hlT⟩ := facts "b3_exceptions" _ rfl
  refine ⟨⟨aV, aE, aI, aM, aD, aSp, aMe, aP, aN, aO, aL, aS, aT, tm, fun x hx => ?_, V, E, I, M, D, Sp, Me, P, N, O, L, hm, hS, fun h (T : Stay h₁ h) => ⟨nS, ?_⟩, hT, beq_eq_false_iff_ne.mpr (Nat.ne_of_gt (Nat.lt_trans hlow hlT)), fun h (T : Stay h₁ h) => ⟨kvs, fT.at fun o e => T _ _ e, fs⟩⟩⟩
  · have hnames : (topG w Pl).map (·.1) = topNames := rfl
    refine others x (notIn hnames ?_) ?_
    · revert x hx; decide +kernel
    · revert x hx; decide +kernel
  · obtain ⟨o, es, ep, t, ho, r⟩ := fS
    exact ⟨o, es, ep, t, T _ _ ho, r⟩

/-! the law's row, look by look (each apart: the kernel keeps less at once) -/
abbrev LL : OpenLaw := PySem.Challenge.rw_rw0092_01
theorem z_def : LL.prog.theDef LL.name = some ((dAt LL.prog 17).params, (dAt LL.prog 17).body, (dAt LL.prog 17).scope) := rfl
theorem z_name : (dAt LL.prog 17).name = LL.name := rfl
theorem z_kw : kwWritten? (dAt LL.prog 17).params.kwonlyargs (dAt LL.prog 17).params.kw_defaults = some [] := rfl
theorem z_df : (dAt LL.prog 17).params.defaults = [] := rfl
theorem z_G : ∀ w Pl, (topG w Pl).lookup LL.name = some (SFn Pl (dAt LL.prog 17)) := fun w Pl => rfl
theorem z_w : LL.writes = false := rfl
theorem z_bare : LL.prog.bare := ⟨rfl, rfl, rfl, rfl, rfl, by decide +kernel⟩
theorem z_ho : opensWell LL.prog = true := by decide +kernel
theorem z_prom : LL.row.toRowW.promised := ⟨[.list []], by decide +kernel, by decide +kernel⟩
theorem z_pre (args : List WData) (h : LL.row.toRowW.claim.pre args = true) : ∃ xs : List Int, args = [.list (xs.map .int)] ∧ xs.length ≤ 63 := pre_ints rfl rfl h
theorem z_open (H : ∀ xs : List Int, xs.length ≤ 63 → LawOk (drawn1 xs)) : LL.row.toRowW.claim.HoldsOpenBy (callStub LL.row.name) (if LL.row.pinned then [LL.row.name] else []) LL.row.keeps LL.row.writes := by
  refine law_open (l := LL) (G := topG) (i := 17) z_def z_name z_kw z_df z_G z_w z_bare z_ho top_left z_pre z_prom ?_
  intro w s₁ mb mg Pl hg hb hblt hc facts others hlow a ha xs hxs
  obtain ⟨g⟩ := ground1 (w := w) (hg := hg) (hb := hb) (hblt := hblt) (hc := hc) facts others hlow
  have : a = g.aL := by
    have h1 : mg "law" = some (.ref g.aL) := g.L.mg
    have h2 : mg "law" = some (.ref a) := ha
    rw [h1] at h2; injection h2 with h2; injection h2 with h2; exact h2.symm
  subst this
  exact c_law g hxs (H xs hxs) (k := 10) ⟨rfl, by decide, by decide⟩
end Mine

/-! P1 -/
namespace Mine
set_option linter.unusedVariables false
set_option maxRecDepth 100000

/-- the hidden sign falls away, the other two are mapped -/
theorem hidden_memb : (hidden.all fun h => memb hidden h.toNat) = true := by decide +kernel
def twoOk (s t : Int) (m : Str) : Bool := decide (prepStep (prepStep ⟨#[]⟩ s.toNat) t.toNat = m)
theorem two_all : ((List.range 11).all fun i => (List.range 4).all fun j => twoOk (signsL.getD i 0) (thirdL.getD j 0) (meantA.getD i ⟨#[]⟩ ++ meantB.getD j ⟨#[]⟩)) = true := by decide +kernel
theorem prep_spelled (x : Int) : prep (spelled x) = meantOf x := by
  have m1 := Int.fmod_lt_of_pos (x.fdiv 44) (b := 27) (by decide)
  have n1 := Int.fmod_nonneg_of_pos (x.fdiv 44) (b := 27) (by decide)
  have m2 := Int.fmod_lt_of_pos x (b := 11) (by decide)
  have n2 := Int.fmod_nonneg_of_pos x (b := 11) (by decide)
  have m3 := Int.fmod_lt_of_pos (x.fdiv 11) (b := 4) (by decide)
  have n3 := Int.fmod_nonneg_of_pos (x.fdiv 11) (b := 4) (by decide)
  unfold spelled prep meantOf
  generalize hi : ((x.fdiv 44).fmod 27).toNat = i
  generalize hj : (x.fmod 11).toNat = j
  generalize hk : ((x.fdiv 11).fmod 4).toNat = k
  have i27 : i < 27 := by omega
  have j11 : j < 11 := by omega
  have k4 : k < 4 := by omega
  have hm : hidden.getD i 0 ∈ hidden := getD_mem i27
  have h1 : memb hidden ((hidden.getD i 0).toNat : Int) = true := List.all_eq_true.mp hidden_memb _ hm
  have h2 := List.all_eq_true.mp (List.all_eq_true.mp two_all j (List.mem_range.mpr j11)) k (List.mem_range.mpr k4)
  show prepStep (prepStep (prepStep ⟨#[]⟩ _) _) _ = _
  have e : prepStep ⟨#[]⟩ (hidden.getD i 0).toNat = ⟨#[]⟩ := by unfold prepStep; rw [h1]; rfl
  rw [e]
  exact of_decide_eq_true h2
end Mine

/-! P2 -/
namespace Mine
set_option linter.unusedVariables false
set_option maxRecDepth 100000

def combos : List Str := (List.range 11).flatMap fun i => (List.range 4).map fun j => meantA.getD i ⟨#[]⟩ ++ meantB.getD j ⟨#[]⟩
theorem meant_mem (x : Int) : meantOf x ∈ combos := by
  have m2 := Int.fmod_lt_of_pos x (b := 11) (by decide)
  have n2 := Int.fmod_nonneg_of_pos x (b := 11) (by decide)
  have m3 := Int.fmod_lt_of_pos (x.fdiv 11) (b := 4) (by decide)
  have n3 := Int.fmod_nonneg_of_pos (x.fdiv 11) (b := 4) (by decide)
  unfold meantOf combos
  exact List.mem_flatMap.mpr ⟨_, List.mem_range.mpr (by omega), List.mem_map.mpr ⟨_, List.mem_range.mpr (by omega), rfl⟩⟩
theorem combos_all {P : Str → Bool} (h : combos.all P = true) (x : Int) : P (meantOf x) = true := List.all_eq_true.mp h _ (meant_mem x)
theorem wds_eq (D : List Int) : wds D = mns D := by
  unfold wds mns
  exact List.map_congr_left fun x _ => prep_spelled x
theorem mns_mem {D : List Int} {m : Str} (h : m ∈ mns D) : m ∈ combos := by
  unfold mns at h
  obtain ⟨x, _, rfl⟩ := List.mem_map.mp h
  exact meant_mem x

/-- letters and length -/
def letB (m : Str) : Bool := decide (1 ≤ m.length) && decide (m.length ≤ 4) && m.cps.all fun c => c == 102 || c == 105 || c == 108
theorem combos_let : combos.all letB = true := by decide +kernel
theorem combos_num : (combos.all fun m => decide (m.length < 1000) && (List.range m.length).all fun k => (Txt.charAt m (-1 - (k : Int))).isSome && decide (Builtin.Int.intBits ((((Txt.charAt m (-1 - (k : Int))).getD 0 : Nat) : Int) - 64) ≤ 64)) = true := by decide +kernel
theorem num_ok {m : Str} (h : m ∈ combos) : NumOk m := by
  have := List.all_eq_true.mp combos_num m h
  rw [Bool.and_eq_true, decide_eq_true_eq] at this
  refine ⟨this.1, fun k hk => ?_⟩
  have h2 := List.all_eq_true.mp this.2 k (List.mem_range.mpr hk)
  rw [Bool.and_eq_true, decide_eq_true_eq] at h2
  exact ⟨h2.1, IntMulOk.of_left h2.2⟩
end Mine

/-! P3 -/
namespace Mine
set_option linter.unusedVariables false
set_option maxRecDepth 100000

theorem getD_memI {l : List Int} {i : Nat} (h : i < l.length) : l.getD i 0 ∈ l := getD_mem h
theorem minI_spec {l : List Int} (h : 0 < l.length) : minI l ∈ l ∧ ∀ x ∈ l, minI l ≤ x := by
  have a := argBest_lt (fun i => l.getD i 0) (l.length - 1)
  refine ⟨getD_memI (by have := a.1; omega), fun x hx => ?_⟩
  obtain ⟨i, hi, rfl⟩ := List.getElem_of_mem hx
  have := a.2 i (by omega)
  rw [List.getD_eq_getElem?_getD (l := l) (i := i), List.getElem?_eq_getElem hi] at this
  exact this
theorem maxI_spec {l : List Int} (h : 0 < l.length) : maxI l ∈ l ∧ ∀ x ∈ l, x ≤ maxI l := by
  have a := argBest_gt (fun i => l.getD i 0) (l.length - 1)
  have e : maxI l = l.getD (argBest (fun i j => decide (l.getD i 0 > l.getD j 0)) (l.length - 1)) 0 := rfl
  rw [e]
  refine ⟨getD_memI (by have := a.1; omega), fun x hx => ?_⟩
  obtain ⟨i, hi, rfl⟩ := List.getElem_of_mem hx
  have := a.2 i (by omega)
  rw [List.getD_eq_getElem?_getD (l := l) (i := i), List.getElem?_eq_getElem hi] at this
  exact this
end Mine

/-! P4 -/
namespace Mine
set_option linter.unusedVariables false
set_option maxRecDepth 100000

theorem bitOr_nn {x y : Int} (hx : 0 ≤ x) (hy : 0 ≤ y) : Builtin.bitOr x y = ((x.toNat ||| y.toNat : Nat) : Int) := by
  have h1 : ¬ (0 ≤ Builtin.bitNot x) := by unfold Builtin.bitNot; omega
  have h2 : ¬ (0 ≤ Builtin.bitNot y) := by unfold Builtin.bitNot; omega
  unfold Builtin.bitOr Builtin.bitAnd
  rw [decide_eq_false h1, decide_eq_false h2]
  show Builtin.bitNot (Builtin.bitNot _) = _
  have e : ∀ z : Int, Builtin.bitNot (Builtin.bitNot z) = z := fun z => by unfold Builtin.bitNot; omega
  rw [e, e, e]
theorem or_digit {v d : Int} (hv : 0 ≤ v) (hd : 0 ≤ d) (hd' : d < 64) : Builtin.bitOr (v * 64) d = v * 64 + d := by
  rw [bitOr_nn (by omega) hd]
  obtain ⟨a, rfl⟩ := Int.eq_ofNat_of_zero_le hv
  obtain ⟨b, rfl⟩ := Int.eq_ofNat_of_zero_le hd
  have e1 : ((a : Int) * 64).toNat = 2 ^ 6 * a := by omega
  have e2 : ((b : Int)).toNat = b := by omega
  rw [e1, e2, ← Nat.two_pow_add_eq_or_of_lt (by omega : b < 2 ^ 6) a]
  omega

def fold64 (l : List Int) : Int := l.foldl (fun a c => a * 64 + c % 64) 0
theorem fold64_nn : ∀ (l : List Int) (a : Int), 0 ≤ a → 0 ≤ l.foldl (fun a c => a * 64 + c % 64) a
  | [], a, h => h
  | c :: l, a, h => fold64_nn l (a * 64 + c % 64) (by have := Int.emod_nonneg c (b := 64) (by decide); omega)
theorem vval_fold {ns : List Int} : ∀ i, i < ns.length → vval ns 0 i = fold64 (ns.take (i + 1))
  | 0, h => by
    have e : ns.getD 0 0 = ns[0] := by rw [List.getD_eq_getElem?_getD, List.getElem?_eq_getElem h]; rfl
    unfold vval
    rw [bitAnd_m6, e, List.take_succ_eq_append_getElem h]
    simp [fold64]
  | i + 1, h => by
    have e : ns.getD (i + 1) 0 = ns[i + 1] := by rw [List.getD_eq_getElem?_getD, List.getElem?_eq_getElem h]; rfl
    have ih := vval_fold (ns := ns) i (by omega)
    have hn : 0 ≤ fold64 (ns.take (i + 1)) := fold64_nn _ 0 (Int.le_refl _)
    have m0 := Int.emod_nonneg ns[i + 1] (b := 64) (by decide)
    have m1 := Int.emod_lt_of_pos ns[i + 1] (b := 64) (by decide)
    unfold vval
    rw [ih, bitAnd_m6, Nat.zero_add, e, List.take_succ_eq_append_getElem h]
    have e6 : (2 : Int) ^ (6 : Int).toNat = 64 := by decide
    rw [e6, or_digit hn m0 m1]
    unfold fold64
    rw [List.foldl_append]
    rfl

/-- the number that a text spells -/
def numL (l : List Nat) : Int := l.foldl (fun (a : Int) (c : Nat) => a * 64 + ((c : Int) - 64)) 0
def lett (l : List Nat) : Bool := l.all fun c => c == 102 || c == 105 || c == 108
theorem foldL : ∀ (l : List Nat) (a : Int), lett l = true → (l.map fun (c : Nat) => (c : Int)).foldl (fun a c => a * 64 + c % 64) a = l.foldl (fun (a : Int) (c : Nat) => a * 64 + ((c : Int) - 64)) a
  | [], a, _ => rfl
  | c :: l, a, h => by
    unfold lett at h
    rw [List.all_cons, Bool.and_eq_true] at h
    have hc : c = 102 ∨ c = 105 ∨ c = 108 := by simpa [Bool.or_eq_true, or_assoc] using h.1
    have e : (c : Int) % 64 = (c : Int) - 64 := by omega
    rw [List.map_cons, List.foldl_cons, List.foldl_cons, e]
    exact foldL l _ h.2
theorem read_num {t : Str} (h : lett t.cps.toList = true) : readOf t = numL t.cps.toList * 64 + 46 := by
  have hl : (nsOf t).length = (atS ++ t).length + 1 := by
    unfold nsOf
    rw [List.length_append, List.length_map, Array.length_toList]; rfl
  unfold readOf
  rw [vval_fold _ (by omega), List.take_of_length_le (by omega)]
  have e : nsOf t = [64] ++ (t.cps.toList.map fun (c : Nat) => (c : Int)) ++ [174] := by
    unfold nsOf
    have : (atS ++ t).cps.toList = [64] ++ t.cps.toList := by
      show (atS.cps ++ t.cps).toList = _
      rw [Array.toList_append]; rfl
    rw [this, List.map_append]; rfl
  rw [e]
  unfold fold64
  rw [List.foldl_append, List.foldl_append]
  show ((t.cps.toList.map fun (c : Nat) => (c : Int)).foldl (fun a c => a * 64 + c % 64) (0 * 64 + 64 % 64)) * 64 + 174 % 64 = _
  have z : (0 : Int) * 64 + 64 % 64 = 0 := by decide
  rw [z, foldL _ 0 h]
  rfl
end Mine

/-! T1 -/
namespace Mine
set_option linter.unusedVariables false
set_option maxRecDepth 100000

abbrev sg (x : Str) : List Nat := x.cps.toList
theorem sg_len (x : Str) : (sg x).length = x.length := Array.length_toList
theorem sg_app (x y : Str) : sg (x ++ y) = sg x ++ sg y := Array.toList_append
theorem sg_inj {x y : Str} (h : sg x = sg y) : x = y := by
  obtain ⟨a⟩ := x; obtain ⟨b⟩ := y
  congr 1
  exact Array.toList_inj.mp h
theorem glue_fold (g : Str) : ∀ (ps : List Str) (a : Array Nat), (ps.foldl (fun acc p => acc ++ g.cps ++ p.cps) a).toList = a.toList ++ ps.flatMap fun p => sg g ++ sg p
  | [], a => by simp
  | p :: ps, a => by
    rw [List.foldl_cons, glue_fold g ps]
    simp [List.append_assoc]
theorem join_sg (g : Str) (ws : List Str) : sg (Txt.join g ws) = match ws with | [] => [] | w :: r => sg w ++ r.flatMap fun p => sg g ++ sg p := by
  cases ws with
  | nil => rfl
  | cons w r =>
    show ((r.foldl (fun acc p => acc ++ g.cps ++ p.cps) w.cps)).toList = _
    rw [glue_fold]
theorem join_nil (ws : List Str) : sg (Txt.join nilS ws) = ws.flatMap sg := by
  rw [join_sg]
  cases ws with
  | nil => rfl
  | cons w r =>
    show sg w ++ r.flatMap (fun p => sg nilS ++ sg p) = sg w ++ r.flatMap sg
    rfl


/-! where a word stands in a row of signs -/
def Occ (G w : List Nat) (i : Nat) : Prop := i + w.length ≤ G.length ∧ (G.drop i).take w.length = w
def EmbP (G : List Nat) : Nat → List (List Nat) → Prop
  | st, [] => st ≤ G.length
  | st, w :: ws => ∃ i, st ≤ i ∧ Occ G w i ∧ EmbP G (i + w.length) ws
theorem embP_mono {G : List Nat} : ∀ {ws : List (List Nat)} {s t : Nat}, s ≤ t → EmbP G t ws → EmbP G s ws
  | [], _, _, h, e => Nat.le_trans h e
  | _ :: _, _, _, h, ⟨i, h1, h2, h3⟩ => ⟨i, Nat.le_trans h h1, h2, h3⟩
theorem embP_le {G : List Nat} : ∀ {ws : List (List Nat)} {s : Nat}, EmbP G s ws → s ≤ G.length
  | [], _, e => e
  | _ :: _, _, ⟨i, h1, h2, _⟩ => by have := h2.1; omega
theorem embP_nil {G : List Nat} {ws : List (List Nat)} {s : Nat} : EmbP G s ([] :: ws) ↔ EmbP G s ws := by
  constructor
  · rintro ⟨i, h1, h2, h3⟩
    exact embP_mono h1 (by simpa using h3)
  · intro h
    exact ⟨s, Nat.le_refl _, ⟨by simpa using embP_le h, by simp⟩, by simpa using h⟩
theorem embP_snoc {G : List Nat} : ∀ {ws : List (List Nat)} {s : Nat}, EmbP G s (ws ++ [[]]) ↔ EmbP G s ws
  | [], s => embP_nil
  | w :: ws, s => by
    constructor
    · rintro ⟨i, h1, h2, h3⟩; exact ⟨i, h1, h2, embP_snoc.mp h3⟩
    · rintro ⟨i, h1, h2, h3⟩; exact ⟨i, h1, h2, embP_snoc.mpr h3⟩
theorem occ_at {got w : Str} {en i : Nat} (he : en ≤ got.length) : StrLaws.At got w en i ↔ Occ ((sg got).take en) (sg w) i := by
  unfold StrLaws.At Occ
  rw [StrLaws.subAt_eq, beq_iff_eq, List.length_take, sg_len, sg_len, Nat.min_eq_left he]
  constructor
  · rintro ⟨h1, h2⟩
    refine ⟨h1, ?_⟩
    rw [List.drop_take, List.take_take, Nat.min_eq_left (by omega)]
    exact h2
  · rintro ⟨h1, h2⟩
    refine ⟨h1, ?_⟩
    rw [List.drop_take, List.take_take, Nat.min_eq_left (by omega)] at h2
    exact h2
theorem mem_of_range' {st n i : Nat} (h1 : st ≤ i) (h2 : i < st + n) : i ∈ List.range' st n := by
  rw [List.mem_range']; exact ⟨i - st, by omega, by omega⟩
theorem find4_spec {got w : Str} {st en : Nat} (hs : st ≤ en) (he : en ≤ got.length) :
    (find4 got w st en = -1 ∧ ∀ i, st ≤ i → ¬ Occ ((sg got).take en) (sg w) i) ∨
    ∃ i : Nat, find4 got w st en = i ∧ st ≤ i ∧ Occ ((sg got).take en) (sg w) i ∧ ∀ k, st ≤ k → k < i → ¬ Occ ((sg got).take en) (sg w) k := by
  have f1 : ∀ n : Nat, fromIndex got.length (n : Int) = n := fun n => by
    unfold fromIndex
    rw [if_neg (by omega)]; omega
  unfold find4
  rw [f1, f1, Nat.min_eq_left he, StrLaws.occ_eq]
  have hl : (List.range' st (en + 1 - st)).Pairwise (· < ·) := List.pairwise_lt_range'
  rcases StrLaws.occ_first got w en 1 (Nat.le_refl 1) (List.range' st (en + 1 - st)) st (fun i hi => by rw [List.mem_range'] at hi; obtain ⟨j, _, rfl⟩ := hi; omega) with ⟨h0, hn⟩ | ⟨pre, a, post, e, h0, ha, hn⟩
  · refine .inl ⟨by rw [h0], fun i hi hA => ?_⟩
    have hA' := (occ_at he).mpr hA
    exact hn i (mem_of_range' hi (by have := hA'.1; omega)) hA'
  · refine .inr ⟨a, ?_, ?_, (occ_at he).mp ha, fun k h1 h2 hA => ?_⟩
    · generalize (forIn (List.range' st (en + 1 - st)) ((#[] : Array Nat), st) (StrLaws.occBody got w en 1)).run.fst = arr at h0
      have h1 : arr.toList[0]? = some a := by simpa using h0
      cases hL : arr.toList with
      | nil => rw [hL] at h1; cases h1
      | cons b t => rw [hL] at h1; simp at h1; rw [h1]
    · have hm : a ∈ List.range' st (en + 1 - st) := by rw [e]; simp
      rw [List.mem_range'] at hm
      obtain ⟨j, _, rfl⟩ := hm; omega
    · have hA' := (occ_at he).mpr hA
      have hm : k ∈ List.range' st (en + 1 - st) := mem_of_range' h1 (by have := hA'.1; omega)
      rw [e] at hm hl
      rcases List.mem_append.mp hm with hp | hp
      · exact hn k hp hA'
      · rcases List.mem_cons.mp hp with rfl | hp
        · omega
        · have := (List.pairwise_cons.mp (List.pairwise_append.mp hl).2.1).1 k hp
          omega
theorem findAll_iff {got : Str} {en : Nat} (he : en ≤ got.length) : ∀ (ws : List Str) (st : Nat), st ≤ en → (findAll got en ws st = true ↔ EmbP ((sg got).take en) st (ws.map sg))
  | [], st, hs => by
    unfold findAll
    show _ ↔ st ≤ _
    rw [List.length_take, sg_len, Nat.min_eq_left he]
    simp [hs]
  | w :: ws, st, hs => by
    unfold findAll
    rcases find4_spec (w := w) hs he with ⟨h0, hn⟩ | ⟨i, h0, h1, h2, h3⟩
    · rw [h0, if_pos (by decide)]
      refine ⟨fun h => (by cases h), ?_⟩
      rintro ⟨j, j1, j2, _⟩
      exact absurd j2 (hn j j1)
    · have hie : i + (sg w).length ≤ en := by
        have := h2.1
        rw [List.length_take] at this
        omega
      rw [h0, if_neg (by omega)]
      have e : (i : Int) + (w.length : Int) = ((i + (sg w).length : Nat) : Int) := by rw [sg_len]; push_cast; rfl
      rw [e, findAll_iff he ws _ hie]
      constructor
      · intro h; exact ⟨i, h1, h2, h⟩
      · rintro ⟨j, j1, j2, j3⟩
        refine embP_mono ?_ j3
        have : i ≤ j := Nat.le_of_not_lt fun hlt => h3 j j1 hlt j2
        omega
end Mine

/-! P5 -/
namespace Mine
set_option linter.unusedVariables false
set_option maxRecDepth 100000

theorem numL_from : ∀ (l : List Nat) (a : Int), l.foldl (fun (a : Int) (c : Nat) => a * 64 + ((c : Int) - 64)) a = a * 64 ^ l.length + numL l
  | [], a => by simp [numL]
  | c :: l, a => by
    unfold numL
    rw [List.foldl_cons, List.foldl_cons, numL_from l, numL_from l (0 * 64 + _)]
    rw [List.length_cons, Int.pow_succ]
    have e : (a * 64 + ((c : Int) - 64)) * 64 ^ l.length = a * (64 ^ l.length * 64) + ((c : Int) - 64) * 64 ^ l.length := by
      rw [Int.add_mul, Int.mul_assoc, Int.mul_comm 64]
    rw [e]
    simp only [Int.zero_mul, Int.zero_add]
    omega
theorem numL_app (l m : List Nat) : numL (l ++ m) = numL l * 64 ^ m.length + numL m := by
  conv => lhs; unfold numL
  rw [List.foldl_append, numL_from m]; rfl
theorem combos_numL : (combos.all fun m => decide (numOf m = numL (sg m))) = true := by decide +kernel
theorem numOf_eq {m : Str} (h : m ∈ combos) : numOf m = numL (sg m) := of_decide_eq_true (List.all_eq_true.mp combos_numL m h)
end Mine

/-! P6 -/
namespace Mine
set_option linter.unusedVariables false
set_option maxRecDepth 100000

/-- the k-th word -/
def wd (D : List Int) (k : Nat) : Str := (mns D).getD k nilS
theorem mns_len {D : List Int} (h : D.length = 4) : (mns D).length = 4 := by unfold mns; rw [List.length_map]; exact h
theorem wd_mem {D : List Int} (h : D.length = 4) {k : Nat} (hk : k < 4) : wd D k ∈ combos := by
  unfold wd
  rw [List.getD_eq_getElem?_getD, List.getElem?_eq_getElem (by rw [mns_len h]; exact hk)]
  exact mns_mem (List.getElem_mem _)
theorem vls_at {D : List Int} (h : D.length = 4) {k : Nat} (hk : k < 4) : (vls D).getD k 0 = numL (sg (wd D k)) := by
  rw [← numOf_eq (wd_mem h hk)]
  unfold vls
  exact getD_map (mns D) numOf k nilS 0 (by rw [mns_len h]; exact hk)
theorem bss_at {D : List Int} (h : D.length = 4) {k : Nat} (hk : k < 4) : (bss D).getD k 0 = 64 ^ (sg (wd D k)).length := by
  unfold bss
  rw [getD_map (mns D) _ k nilS 0 (by rw [mns_len h]; exact hk)]
  rw [sg_len]
  show (64 : Int) ^ ((wd D k).length : Int).toNat = _
  rw [Int.toNat_natCast]
theorem txt_sg (D : List Int) (o : List Nat) : sg (txt D o) = o.flatMap fun k => sg (wd D k) := by
  unfold txt
  rw [join_nil, wds_eq, List.flatMap_map]
  rfl
theorem letters {m : Str} (h : m ∈ combos) : 1 ≤ (sg m).length ∧ (sg m).length ≤ 4 ∧ lett (sg m) = true := by
  have := List.all_eq_true.mp combos_let m h
  unfold letB at this
  rw [Bool.and_eq_true, Bool.and_eq_true, decide_eq_true_eq, decide_eq_true_eq] at this
  refine ⟨by rw [sg_len]; exact this.1.1, by rw [sg_len]; exact this.1.2, ?_⟩
  unfold lett
  rw [← this.2, Array.all_toList]
theorem txt_lett {D : List Int} (h : D.length = 4) : ∀ (o : List Nat), (∀ k ∈ o, k < 4) → lett (o.flatMap fun k => sg (wd D k)) = true
  | [], _ => rfl
  | k :: o, ho => by
    have h1 := (letters (wd_mem h (ho k List.mem_cons_self))).2.2
    have h2 := txt_lett h o fun j hj => ho j (List.mem_cons_of_mem _ hj)
    unfold lett at h1 h2 ⊢
    rw [List.flatMap_cons, List.all_append, h1, h2]; rfl
theorem due_num {D : List Int} (h : D.length = 4) : ∀ (o : List Nat) (a : Int), (∀ k ∈ o, k < 4) → o.foldl (dueStep D) a = a * 64 ^ (o.flatMap fun k => sg (wd D k)).length + numL (o.flatMap fun k => sg (wd D k))
  | [], a, _ => by simp [numL]
  | k :: o, a, ho => by
    have hk := ho k List.mem_cons_self
    rw [List.foldl_cons, due_num h o _ fun j hj => ho j (List.mem_cons_of_mem _ hj), List.flatMap_cons, numL_app, List.length_append, Int.pow_add]
    unfold dueStep
    rw [vls_at h hk, bss_at h hk, Int.add_mul]
    simp only [Int.mul_assoc, Int.add_assoc]
theorem c1_ok {D : List Int} (h : D.length = 4) {o : List Nat} (ho : o ∈ ords) : readOf (txt D o) = due D o * 64 + 46 := by
  obtain ⟨_, olt⟩ := ord_facts ho
  have hl : lett (sg (txt D o)) = true := by rw [txt_sg]; exact txt_lett h o olt
  rw [read_num hl]
  unfold due
  rw [due_num h o 0 olt]
  show numL (sg (txt D o)) * 64 + 46 = _
  rw [txt_sg]
  simp
end Mine

/-! P7 -/
namespace Mine
set_option linter.unusedVariables false
set_option maxRecDepth 100000

/-! texts as words laid in a row: the least number is the sorted row's -/
theorem pow_pos' (n : Nat) : (1 : Int) ≤ 64 ^ n := by
  induction n with
  | zero => decide
  | succ n ih => rw [Int.pow_succ]; omega
theorem pow_gt {n : Nat} (h : 1 ≤ n) : (1 : Int) < 64 ^ n := by
  obtain ⟨m, rfl⟩ : ∃ m, n = m + 1 := ⟨n - 1, by omega⟩
  have := pow_pos' m
  rw [Int.pow_succ]; omega
/-- the gap of two words: how much farther the one's fraction lies than the other's -/
def gapL (a b : List Nat) : Int := numL a * (64 ^ b.length - 1) - numL b * (64 ^ a.length - 1)
theorem num_gap (a b : List Nat) : numL (a ++ b) = numL (b ++ a) + gapL a b := by
  unfold gapL
  rw [numL_app, numL_app, Int.mul_sub, Int.mul_sub]
  omega
/-- a may stand ahead of b (s: 1 for the least, -1 for the greatest) -/
def rel (s : Int) (a b : List Nat) : Prop := s * gapL a b ≤ 0
theorem rel_trans {s : Int} {a b c : List Nat} (hb : 1 ≤ b.length) (ha : 1 ≤ a.length) (hc : 1 ≤ c.length) (h1 : rel s a b) (h2 : rel s b c) : rel s a c := by
  unfold rel gapL at *
  have pA := pow_gt ha
  have pB := pow_gt hb
  have pC := pow_gt hc
  have pA' : (0 : Int) < 64 ^ a.length - 1 := by omega
  have pB' : (0 : Int) < 64 ^ b.length - 1 := by omega
  have pC' : (0 : Int) < 64 ^ c.length - 1 := by omega
  generalize (64 : Int) ^ a.length - 1 = A at *
  generalize (64 : Int) ^ b.length - 1 = B at *
  generalize (64 : Int) ^ c.length - 1 = C at *
  generalize numL a = x at *
  generalize numL b = y at *
  generalize numL c = z at *
  have k1 : s * (x * B - y * A) * C ≤ 0 := Int.mul_nonpos_of_nonpos_of_nonneg h1 (by omega)
  have k2 : s * (y * C - z * B) * A ≤ 0 := Int.mul_nonpos_of_nonpos_of_nonneg h2 (by omega)
  have k3 : s * (x * C - z * A) * B ≤ 0 := by
    have e : s * (x * C - z * A) * B = s * (x * B - y * A) * C + s * (y * C - z * B) * A := by grind
    omega
  exact Int.nonpos_of_mul_nonpos_left k3 pB'
end Mine

/-! P8 -/
namespace Mine
set_option linter.unusedVariables false
set_option maxRecDepth 100000

theorem num_pre {a b : List Nat} (z : List Nat) (hl : a.length = b.length) {s : Int} (h : s * numL a ≤ s * numL b) : s * numL (z ++ a) ≤ s * numL (z ++ b) := by
  rw [numL_app, numL_app, hl, Int.mul_add, Int.mul_add]
  omega
theorem num_swap {s : Int} {a b : List Nat} (h : rel s a b) (z : List Nat) : s * numL (a ++ (b ++ z)) ≤ s * numL (b ++ (a ++ z)) := by
  rw [← List.append_assoc, ← List.append_assoc, numL_app (a ++ b) z, numL_app (b ++ a) z, num_gap a b]
  have p := pow_pos' z.length
  have k : s * gapL a b * 64 ^ z.length ≤ 0 := Int.mul_nonpos_of_nonpos_of_nonneg h (by omega)
  have e : s * ((numL (b ++ a) + gapL a b) * 64 ^ z.length + numL z) = s * (numL (b ++ a) * 64 ^ z.length + numL z) + s * gapL a b * 64 ^ z.length := by grind
  omega
theorem num_move {s : Int} {a : List Nat} (y : List (List Nat)) : ∀ (x : List (List Nat)), (∀ z ∈ x, rel s a z) → s * numL (a ++ (x ++ y).flatten) ≤ s * numL ((x ++ a :: y).flatten)
  | [], _ => Int.le_refl _
  | z :: x, h => by
    have ih := num_move y x fun q hq => h q (List.mem_cons_of_mem _ hq)
    have h1 := num_swap (h z List.mem_cons_self) (x ++ y).flatten
    refine Int.le_trans h1 (num_pre z ?_ ih)
    simp [List.length_append, List.length_flatten]
    omega
theorem num_least {s : Int} : ∀ (l : List (List Nat)), l.Pairwise (rel s) → ∀ l' : List (List Nat), l'.Perm l → s * numL l.flatten ≤ s * numL l'.flatten
  | [], _, l', hp => by rw [hp.eq_nil]; exact Int.le_refl _
  | a :: t, hw, l', hp => by
    have hw' := List.pairwise_cons.mp hw
    have ha : a ∈ l' := hp.mem_iff.mpr List.mem_cons_self
    obtain ⟨x, y, rfl⟩ := List.append_of_mem ha
    have hp2 : (x ++ y).Perm t := (List.Perm.cons_inv (List.perm_middle.symm.trans hp))
    have ih := num_least t hw'.2 (x ++ y) hp2
    refine Int.le_trans (num_pre a ?_ ih) (num_move y x fun z hz => hw'.1 z (hp2.mem_iff.mp (List.mem_append_left _ hz)))
    have := hp2.length_eq
    rw [List.length_flatten, List.length_flatten]
    exact (hp2.map List.length).sum_nat.symm
/-- letters: the number tells the word -/
theorem num_inj : ∀ (n : Nat) (a b : List Nat), a.length = n → b.length = n → lett a = true → lett b = true → numL a = numL b → a = b
  | 0, a, b, ha, hb, _, _, _ => by rw [List.length_eq_zero_iff.mp ha, List.length_eq_zero_iff.mp hb]
  | n + 1, a, b, ha, hb, la, lb, h => by
    obtain ⟨a', x, rfl⟩ : ∃ a' x, a = a' ++ [x] := ⟨a.dropLast, a.getLast (by intro e; rw [e] at ha; cases ha), (List.dropLast_concat_getLast _).symm⟩
    obtain ⟨b', y, rfl⟩ : ∃ b' y, b = b' ++ [y] := ⟨b.dropLast, b.getLast (by intro e; rw [e] at hb; cases hb), (List.dropLast_concat_getLast _).symm⟩
    rw [numL_app, numL_app] at h
    unfold lett at la lb
    rw [List.all_append, Bool.and_eq_true] at la lb
    have hx : x = 102 ∨ x = 105 ∨ x = 108 := by simpa [Bool.or_eq_true, or_assoc] using la.2
    have hy : y = 102 ∨ y = 105 ∨ y = 108 := by simpa [Bool.or_eq_true, or_assoc] using lb.2
    have ex : numL [x] = (x : Int) - 64 := by unfold numL; simp
    have ey : numL [y] = (y : Int) - 64 := by unfold numL; simp
    rw [ex, ey] at h
    simp only [List.length_cons, List.length_nil, Nat.zero_add, Int.pow_succ, Int.pow_zero, Int.one_mul] at h
    have e : numL a' = numL b' ∧ x = y := by omega
    rw [e.2, num_inj n a' b' (by simpa using ha) (by simpa using hb) la.1 lb.1 e.1]
end Mine

/-! T2 -/
namespace Mine
set_option linter.unusedVariables false
set_option maxRecDepth 100000

/-! the split of words that were joined by the mark -/
def dotFree (w : Str) : Prop := 46 ∉ sg w
theorem sg_mark : sg mark = [46, 46, 46] := by decide
theorem mark_len : mark.length = 3 := by decide
theorem at_mark {x : Str} {i : Nat} (h : StrLaws.At x mark x.length i) : (sg x)[i]? = some 46 := by
  have h2 := h.2
  rw [StrLaws.subAt_eq, beq_iff_eq] at h2
  have e : ((sg x).drop i).take mark.length = sg mark := h2
  rw [mark_len, sg_mark] at e
  have : (((sg x).drop i).take 3)[0]? = some 46 := by rw [e]; rfl
  rw [List.getElem?_take_of_lt (by decide), List.getElem?_drop, Nat.add_zero] at this
  exact this
theorem mark_at {x : Str} {i : Nat} {r : List Nat} (h : (sg x).drop i = [46, 46, 46] ++ r) : StrLaws.At x mark x.length i := by
  have hl := congrArg List.length h
  rw [List.length_drop, sg_len] at hl
  simp at hl
  refine ⟨by rw [mark_len]; omega, ?_⟩
  rw [StrLaws.subAt_eq, beq_iff_eq]
  show ((sg x).drop i).take mark.length = sg mark
  rw [mark_len, sg_mark, h]; rfl
theorem no_mark {x : Str} {a : Nat} {w r : List Nat} (hw : 46 ∉ w) (h : (sg x).drop a = w ++ r) : ∀ k, a ≤ k → k < a + w.length → ¬ StrLaws.At x mark x.length k := fun k h1 h2 hA => by
  have h3 := at_mark hA
  have e : (sg x)[k]? = ((sg x).drop a)[k - a]? := by rw [List.getElem?_drop]; congr 1; omega
  rw [e, h, List.getElem?_append_left (by omega)] at h3
  exact hw (List.mem_of_getElem? h3)
theorem no_mark_end {x : Str} {a : Nat} {w : List Nat} (hw : 46 ∉ w) (h : (sg x).drop a = w) : ∀ k, a ≤ k → ¬ StrLaws.At x mark x.length k := fun k h1 hA => by
  have h4 := congrArg List.length h
  rw [List.length_drop, sg_len] at h4
  have := hA.1
  rw [mark_len] at this
  exact no_mark hw (r := []) (by rw [h, List.append_nil]) k h1 (by omega) hA
theorem sub_word {x : Str} {a : Nat} {w : Str} {r : List Nat} (h : (sg x).drop a = sg w ++ r) : Builtin.Str.strSub x a (a + w.length) = w := by
  apply sg_inj
  show (Builtin.Str.strSub x a (a + w.length)).cps.toList = _
  rw [StrLaws.strSub_toList]
  show ((sg x).drop a).take _ = _
  rw [h, Nat.add_sub_cancel_left, ← sg_len, List.take_left]
theorem parts_words {x : Str} : ∀ (r : List Str) (w : Str) (a f : Nat) (cuts : List Nat), (∀ p ∈ w :: r, dotFree p) → (sg x).drop a = sg w ++ r.flatMap (fun p => sg mark ++ sg p) →
    StrLaws.ChainG x mark x.length a cuts f → (∀ k, f ≤ k → ¬ StrLaws.At x mark x.length k) → StrLaws.partsFrom x mark.length a cuts = w :: r
  | [], w, a, f, cuts, hd, h, hc, hn => by
    have hw : 46 ∉ sg w := hd w List.mem_cons_self
    have h0 : (sg x).drop a = sg w := by rw [h]; simp
    cases cuts with
    | nil =>
      show [Builtin.Str.strSub x a x.length] = [w]
      congr 1
      apply sg_inj
      show (Builtin.Str.strSub x a x.length).cps.toList = _
      rw [StrLaws.strSub_toList]
      show ((sg x).drop a).take _ = _
      rw [h0]
      refine List.take_of_length_le ?_
      rw [← h0, List.length_drop, sg_len]; exact Nat.le_refl _
    | cons c r => exact absurd hc.2.1 (no_mark_end hw h0 c hc.1)
  | w2 :: r, w, a, f, cuts, hd, h, hc, hn => by
    have hw : 46 ∉ sg w := hd w List.mem_cons_self
    rw [List.flatMap_cons] at h
    have hA : StrLaws.At x mark x.length (a + w.length) := by
      refine mark_at (r := sg w2 ++ r.flatMap fun p => sg mark ++ sg p) ?_
      rw [← List.drop_drop, h, ← sg_len, List.drop_left, sg_mark, List.append_assoc]
    cases cuts with
    | nil =>
      have e : f = a := hc
      exact absurd hA (hn _ (by omega))
    | cons c cs =>
      have hca : c = a + w.length := by
        have h1 := hc.2.2.1
        have h2 : ¬ a + w.length < c := fun hlt => h1 _ (by omega) hlt hA
        have h3 : ¬ c < a + w.length := fun hlt => no_mark hw h c hc.1 (by rw [sg_len]; exact hlt) hc.2.1
        omega
      subst hca
      show Builtin.Str.strSub x a (a + w.length) :: StrLaws.partsFrom x mark.length (a + w.length + mark.length) cs = _
      rw [sub_word h, parts_words r w2 (a + w.length + mark.length) f cs (fun p hp => hd p (List.mem_cons_of_mem _ hp)) ?_ hc.2.2.2 hn]
      rw [← List.drop_drop, ← List.drop_drop, h, ← sg_len w, List.drop_left, ← sg_len mark, List.append_assoc, List.drop_left]
theorem between_join {w : Str} {r : List Str} (hd : ∀ p ∈ w :: r, dotFree p) : Builtin.Str.partsBetween (Txt.join mark (w :: r)) (Builtin.Str.occurrences (Txt.join mark (w :: r)) mark 0 (Txt.join mark (w :: r)).length ((Txt.join mark (w :: r)).length + 1)) mark.length = w :: r := by
  obtain ⟨f, hc, hn⟩ := StrLaws.occ_tight (Txt.join mark (w :: r)) mark (by decide)
  rw [StrLaws.partsBetween_eq]
  exact parts_words r w 0 f _ hd (by rw [List.drop_zero, join_sg]) hc hn
theorem split_between (x : Str) : Txt.split x mark = Builtin.Str.partsBetween x (Builtin.Str.occurrences x mark 0 x.length (x.length + 1)) mark.length := by
  have h := m_split x mark (by decide)
  have h2 : GW2.means .split (.str x) (.str mark) = some (.list ((Builtin.Str.partsBetween x (Builtin.Str.occurrences x mark 0 x.length (x.length + 1)) mark.length).map .str)) := by
    show (if (mark.length == 0) = true then Option.none else some (WData.list _)) = _
    rw [if_neg (by decide)]; rfl
  rw [h2] at h
  injection h with h
  injection h with h
  exact (List.map_inj_right (fun a b e => by injection e)).mp h.symm
theorem split_join {w : Str} {r : List Str} (hd : ∀ p ∈ w :: r, dotFree p) : Txt.split (Txt.join mark (w :: r)) mark = w :: r := by
  rw [split_between, between_join hd]
theorem contains_iff (x : Str) : Txt.contains x mark = true ↔ ∃ i, StrLaws.At x mark x.length i := by
  unfold Txt.contains
  exact StrLaws.found_iff x mark
theorem contains_one {w : Str} (hd : dotFree w) : Txt.contains w mark = false := by
  rw [Bool.eq_false_iff]
  intro h
  obtain ⟨i, hi⟩ := (contains_iff w).mp h
  exact no_mark_end (x := w) (a := 0) hd (by simp) i (Nat.zero_le _) hi
theorem contains_join (w v : Str) (r : List Str) : Txt.contains (Txt.join mark (w :: v :: r)) mark = true := by
  refine (contains_iff _).mpr ⟨w.length, mark_at (r := sg v ++ r.flatMap fun p => sg mark ++ sg p) ?_⟩
  rw [join_sg]
  show (sg w ++ (v :: r).flatMap _).drop w.length = _
  rw [← sg_len, List.drop_left, List.flatMap_cons, sg_mark, List.append_assoc]
theorem starts_iff (x w : Str) : Txt.startswith x w = true ↔ sg w <+: sg x := by
  unfold Txt.startswith
  rw [Bool.and_eq_true, decide_eq_true_eq, StrLaws.subAt_eq, beq_iff_eq, Nat.zero_add]
  show w.length ≤ x.length ∧ ((sg x).drop 0).take w.length = sg w ↔ _
  rw [List.drop_zero, List.prefix_iff_eq_take, sg_len]
  constructor
  · rintro ⟨_, h⟩; exact h.symm
  · intro h
    refine ⟨?_, h.symm⟩
    have := congrArg List.length h
    rw [List.length_take, sg_len, sg_len] at this
    omega
theorem ends_iff (x w : Str) : Txt.endswith x w = true ↔ sg w <:+ sg x := by
  unfold Txt.endswith
  rw [Bool.and_eq_true, decide_eq_true_eq, StrLaws.subAt_eq, beq_iff_eq, Nat.zero_add]
  show w.length ≤ x.length ∧ ((sg x).drop (x.length - w.length)).take w.length = sg w ↔ _
  rw [List.suffix_iff_eq_drop, sg_len, sg_len]
  have ht : w.length ≤ x.length → ((sg x).drop (x.length - w.length)).take w.length = (sg x).drop (x.length - w.length) := fun h => List.take_of_length_le (by rw [List.length_drop, sg_len]; omega)
  constructor
  · rintro ⟨h1, h⟩; rw [ht h1] at h; exact h.symm
  · intro h
    have hl := congrArg List.length h
    rw [List.length_drop, sg_len, sg_len] at hl
    exact ⟨by omega, by rw [ht (by omega)]; exact h.symm⟩

/-- the match of joined words -/
theorem ellip_two {w0 wl : Str} {mid : List Str} (hd : ∀ p ∈ w0 :: (mid ++ [wl]), dotFree p) (got : Str) :
    ellip (Txt.join mark (w0 :: (mid ++ [wl]))) got = true ↔ sg w0 <+: sg got ∧ sg wl <:+ sg got ∧ w0.length + wl.length ≤ got.length ∧ EmbP ((sg got).take (got.length - wl.length)) w0.length (mid.map sg) := by
  have hc : Txt.contains (Txt.join mark (w0 :: (mid ++ [wl]))) mark = true := by
    cases mid with
    | nil => exact contains_join w0 wl []
    | cons v r => exact contains_join w0 v (r ++ [wl])
  -- the last part
  have h3 : ∀ (ws : List Str) (st en : Nat), en ≤ got.length → (ellip3 got ws st en = true ↔ st ≤ en ∧ EmbP ((sg got).take en) st (ws.map sg)) := fun ws st en he => by
    unfold ellip3
    by_cases h : st ≤ en
    · rw [if_neg (by omega), findAll_iff he ws st h]
      simp [h]
    · rw [if_pos (by omega)]
      simp [h]
  have h2 : ∀ (ws : List Str) (st : Nat), ellip2 got (ws ++ [wl]) st = true ↔ sg wl <:+ sg got ∧ st + wl.length ≤ got.length ∧ EmbP ((sg got).take (got.length - wl.length)) st (ws.map sg) := fun ws st => by
    unfold ellip2
    have e1 : (ws ++ [wl]).getD ((ws ++ [wl]).length - 1) nilS = wl := by
      rw [List.length_append, List.getD_eq_getElem?_getD]; simp
    have e2 : (ws ++ [wl]).eraseIdx ((ws ++ [wl]).length - 1) = ws := by
      rw [List.length_append]
      simp [List.eraseIdx_append_of_length_le]
    dsimp only
    rw [e1, e2]
    by_cases h0 : wl.length = 0
    · rw [if_pos h0]
      have hw : sg wl = [] := List.length_eq_zero_iff.mp (by rw [sg_len]; exact h0)
      rw [show (got.length : Int) = ((got.length : Nat) : Int) from rfl, h3 _ st got.length (Nat.le_refl _), List.map_append]
      show st ≤ got.length ∧ EmbP _ _ (ws.map sg ++ [sg wl]) ↔ _
      rw [hw, embP_snoc, h0, Nat.sub_zero, Nat.add_zero]
      simp
    · rw [if_neg h0]
      by_cases he : Txt.endswith got wl = true
      · have hs := (ends_iff got wl).mp he
        have hle : wl.length ≤ got.length := by
          have := hs.length_le
          rwa [sg_len, sg_len] at this
        rw [if_pos he]
        have e3 : (got.length : Int) - (wl.length : Int) = ((got.length - wl.length : Nat) : Int) := by omega
        rw [e3, h3 _ st _ (Nat.sub_le _ _)]
        constructor
        · rintro ⟨a, b⟩; exact ⟨hs, by omega, b⟩
        · rintro ⟨_, a, b⟩; exact ⟨by omega, b⟩
      · rw [if_neg he]
        refine ⟨fun h => (by cases h), fun h => absurd ((ends_iff got wl).mpr h.1) he⟩
  unfold ellip
  rw [if_pos hc, split_join hd]
  dsimp only
  rw [show (w0 :: (mid ++ [wl])).getD 0 nilS = w0 from rfl]
  by_cases h0 : w0.length = 0
  · rw [if_pos h0]
    have hw : sg w0 = [] := List.length_eq_zero_iff.mp (by rw [sg_len]; exact h0)
    have := h2 (w0 :: mid) 0
    rw [show (w0 :: (mid ++ [wl])) = (w0 :: mid) ++ [wl] from rfl]
    rw [show ((0 : Nat) : Int) = 0 from rfl] at this
    rw [this, List.map_cons, hw, embP_nil, h0]
    simp
  · rw [if_neg h0]
    by_cases hs : Txt.startswith got w0 = true
    · rw [if_pos hs, show (w0 :: (mid ++ [wl])).eraseIdx 0 = mid ++ [wl] from rfl, h2 mid w0.length]
      have := (starts_iff got w0).mp hs
      simp [this]
    · rw [if_neg hs]
      refine ⟨fun h => (by cases h), fun h => absurd ((starts_iff got w0).mpr h.1) hs⟩
theorem ellip_one {w : Str} (hd : dotFree w) (got : Str) : ellip w got = (w == got) := by
  unfold ellip
  rw [contains_one hd, if_neg (by decide)]
/-- what the walk asks, from the words -/
theorem eok_of {w got : Str} {r : List Str} (hd : ∀ p ∈ w :: r, dotFree p) (hl : ∀ p ∈ w :: r, p.length ≤ 1000) (hn : (w :: r).length ≤ 1000) (hj : (Txt.join mark (w :: r)).length ≤ 1000) (hg : got.length ≤ 1000) : EOk (Txt.join mark (w :: r)) got where
  wantL := hj
  gotL := hg
  parts := by rw [split_join hd]; exact hn
  cuts := by rw [between_join hd]; exact Nat.le_trans hn (by decide)
  two := fun h => by
    rw [split_join hd]
    cases r with
    | nil =>
      have e : Txt.join mark [w] = w := rfl
      rw [e, contains_one (hd w List.mem_cons_self)] at h
      cases h
    | cons _ _ => simp
  words := by rw [split_join hd]; exact hl
end Mine

/-! P9 -/
namespace Mine
set_option linter.unusedVariables false
set_option maxRecDepth 100000

/-! words without a gap -/
theorem embP_sum {G : List Nat} : ∀ {ws : List (List Nat)} {s : Nat}, EmbP G s ws → s + ws.flatten.length ≤ G.length
  | [], s, h => by
    have h' : s ≤ G.length := h
    simpa using h'
  | w :: ws, s, ⟨i, h1, h2, h3⟩ => by
    have := embP_sum h3
    rw [List.flatten_cons, List.length_append]; omega
theorem embP_tight {G : List Nat} : ∀ {ws : List (List Nat)} {s : Nat}, s + ws.flatten.length = G.length → (EmbP G s ws ↔ G.drop s = ws.flatten)
  | [], s, h => by
    have h' : s = G.length := by simpa using h
    show s ≤ G.length ↔ _
    rw [h']
    simp
  | w :: ws, s, h => by
    rw [List.flatten_cons, List.length_append] at h
    have ih := embP_tight (G := G) (ws := ws) (s := s + w.length) (by omega)
    constructor
    · rintro ⟨i, h1, h2, h3⟩
      have := embP_sum h3
      have e : i = s := by omega
      subst e
      have h4 := ih.mp h3
      have h5 := h2.2
      rw [List.flatten_cons, ← h4, ← List.drop_drop]
      conv => rhs; lhs; rw [← h5]
      exact (List.take_append_drop _ _).symm
    · intro h1
      rw [List.flatten_cons] at h1
      refine ⟨s, Nat.le_refl _, ⟨by omega, by rw [h1, List.take_left]⟩, ih.mpr ?_⟩
      rw [← List.drop_drop, h1, List.drop_left]
theorem four_match {a b c d T : List Nat} (hl : T.length = a.length + b.length + c.length + d.length) :
    (a <+: T ∧ d <:+ T ∧ a.length + d.length ≤ T.length ∧ EmbP (T.take (T.length - d.length)) a.length [b, c]) ↔ T = a ++ b ++ c ++ d := by
  have ht : (T.take (T.length - d.length)).length = a.length + [b, c].flatten.length := by
    rw [List.length_take]; simp; omega
  rw [embP_tight (by rw [ht])]
  constructor
  · rintro ⟨h1, h2, _, h4⟩
    have e1 : T = T.take (T.length - d.length) ++ d := by
      have := List.suffix_iff_eq_drop.mp h2
      conv => rhs; rhs; rw [this]
      exact (List.take_append_drop _ _).symm
    have e2 : T.take (T.length - d.length) = a ++ [b, c].flatten := by
      rw [← h4]
      have := List.prefix_iff_eq_take.mp h1
      have e3 : a = (T.take (T.length - d.length)).take a.length := by
        rw [List.take_take, Nat.min_eq_left (by omega)]; exact this
      conv => rhs; lhs; rw [e3]
      exact (List.take_append_drop _ _).symm
    rw [e2] at e1
    rw [e1]; simp
  · intro h
    have e : T.length - d.length = (a ++ (b ++ c)).length := by simp; omega
    refine ⟨⟨b ++ c ++ d, by rw [h]; simp⟩, ⟨a ++ b ++ c, by rw [h]⟩, by omega, ?_⟩
    rw [e, h, show a ++ b ++ c ++ d = (a ++ (b ++ c)) ++ d by simp, List.take_left, List.drop_left]
    simp

/-! the orders -/
theorem ords_perm : (ords.all fun o => o.isPerm [0, 1, 2, 3]) = true := by decide +kernel
theorem ords_swap : (ords.all fun o => ords.contains [o.getD 1 0, o.getD 0 0, o.getD 2 0, o.getD 3 0] && ords.contains [o.getD 0 0, o.getD 2 0, o.getD 1 0, o.getD 3 0] && ords.contains [o.getD 0 0, o.getD 1 0, o.getD 3 0, o.getD 2 0]) = true := by decide +kernel
theorem ord_perm {o : List Nat} (ho : o ∈ ords) : o.Perm [0, 1, 2, 3] := List.isPerm_iff.mp (List.all_eq_true.mp ords_perm o ho)
theorem ord_swap {a b c d : Nat} (ho : [a, b, c, d] ∈ ords) : [b, a, c, d] ∈ ords ∧ [a, c, b, d] ∈ ords ∧ [a, b, d, c] ∈ ords := by
  have := List.all_eq_true.mp ords_swap _ ho
  rw [Bool.and_eq_true, Bool.and_eq_true] at this
  exact ⟨List.contains_iff_mem.mp this.1.1, List.contains_iff_mem.mp this.1.2, List.contains_iff_mem.mp this.2⟩
theorem ord_four {o : List Nat} (ho : o ∈ ords) : ∃ a b c d, o = [a, b, c, d] ∧ a < 4 ∧ b < 4 ∧ c < 4 ∧ d < 4 := by
  obtain ⟨h4, hlt⟩ := ord_facts ho
  match o, h4 with
  | [a, b, c, d], _ => exact ⟨a, b, c, d, rfl, hlt a (by simp), hlt b (by simp), hlt c (by simp), hlt d (by simp)⟩

/-- the words of an order -/
def row (D : List Int) (o : List Nat) : List (List Nat) := o.map fun k => sg (wd D k)
theorem txt_row (D : List Int) (o : List Nat) : sg (txt D o) = (row D o).flatten := by
  rw [txt_sg, List.flatMap_def]; rfl
theorem row_perm {D : List Int} {o o' : List Nat} (ho : o ∈ ords) (ho' : o' ∈ ords) : (row D o').Perm (row D o) := ((ord_perm ho').trans (ord_perm ho).symm).map _
theorem txt_len {D : List Int} {o o' : List Nat} (ho : o ∈ ords) (ho' : o' ∈ ords) : (sg (txt D o')).length = (sg (txt D o)).length := by
  rw [txt_row, txt_row, List.length_flatten, List.length_flatten]
  exact ((row_perm ho ho').map List.length).sum_nat
theorem txt_let {D : List Int} (h : D.length = 4) {o : List Nat} (ho : o ∈ ords) : lett (sg (txt D o)) = true := by
  rw [txt_sg]; exact txt_lett h o (ord_facts ho).2
theorem read_txt {D : List Int} (h : D.length = 4) {o : List Nat} (ho : o ∈ ords) : readOf (txt D o) = numL (row D o).flatten * 64 + 46 := by
  rw [read_num (txt_let h ho)]
  show numL (sg (txt D o)) * 64 + 46 = _
  rw [txt_row]
theorem wds_wd (D : List Int) (k : Nat) : (wds D).getD k nilS = wd D k := by rw [wds_eq]; rfl
theorem lett_dot {l : List Nat} (h : lett l = true) : 46 ∉ l := fun hm => by
  have := List.all_eq_true.mp h 46 hm
  exact absurd this (by decide)
theorem wd_dot {D : List Int} (h : D.length = 4) {k : Nat} (hk : k < 4) : dotFree (wd D k) := lett_dot (letters (wd_mem h hk)).2.2

theorem ellip_order {D : List Int} (h : D.length = 4) {o m : List Nat} (ho : o ∈ ords) (hm : m ∈ ords) : ellip (pattern D o) (txt D m) = true ↔ txt D m = txt D o := by
  obtain ⟨a, b, c, d, rfl, ha, hb, hc, hd⟩ := ord_four ho
  have e : pattern D [a, b, c, d] = Txt.join mark (wd D a :: ([wd D b, wd D c] ++ [wd D d])) := by
    unfold pattern
    simp only [List.map_cons, List.map_nil, wds_wd]; rfl
  rw [e, ellip_two (fun p hp => ?_)]
  · have hl := txt_len (D := D) ho hm
    rw [txt_row D [a, b, c, d]] at hl
    have hl' : (sg (txt D m)).length = (sg (wd D a)).length + (sg (wd D b)).length + (sg (wd D c)).length + (sg (wd D d)).length := by
      rw [hl]; unfold row; simp; omega
    have := four_match (a := sg (wd D a)) (b := sg (wd D b)) (c := sg (wd D c)) (d := sg (wd D d)) (T := sg (txt D m)) hl'
    rw [← sg_len, ← sg_len, ← sg_len]
    show _ ∧ _ ∧ _ ∧ EmbP _ _ [sg (wd D b), sg (wd D c)] ↔ _
    rw [this]
    have e2 : sg (txt D [a, b, c, d]) = sg (wd D a) ++ sg (wd D b) ++ sg (wd D c) ++ sg (wd D d) := by rw [txt_row]; unfold row; simp
    rw [← e2]
    exact ⟨fun h => sg_inj h, fun h => by rw [h]⟩
  · have : p = wd D a ∨ p = wd D b ∨ p = wd D c ∨ p = wd D d := by simpa using hp
    rcases this with rfl | rfl | rfl | rfl
    · exact wd_dot h ha
    · exact wd_dot h hb
    · exact wd_dot h hc
    · exact wd_dot h hd

/-- an order is extreme just if no neighbours stand amiss -/
theorem sorted_iff {D : List Int} (h : D.length = 4) {s : Int} {a b c d : Nat} (ho : [a, b, c, d] ∈ ords) :
    (∀ o' ∈ ords, s * readOf (txt D [a, b, c, d]) ≤ s * readOf (txt D o')) ↔ rel s (sg (wd D a)) (sg (wd D b)) ∧ rel s (sg (wd D b)) (sg (wd D c)) ∧ rel s (sg (wd D c)) (sg (wd D d)) := by
  obtain ⟨_, hlt⟩ := ord_facts ho
  have la := (letters (wd_mem h (hlt a (by simp)))).1
  have lb := (letters (wd_mem h (hlt b (by simp)))).1
  have lc := (letters (wd_mem h (hlt c (by simp)))).1
  have ld := (letters (wd_mem h (hlt d (by simp)))).1
  have key : ∀ o' ∈ ords, (s * readOf (txt D [a, b, c, d]) ≤ s * readOf (txt D o') ↔ s * numL (row D [a, b, c, d]).flatten ≤ s * numL (row D o').flatten) := fun o' ho' => by
    rw [read_txt h ho, read_txt h ho', Int.mul_add, Int.mul_add, ← Int.mul_assoc, ← Int.mul_assoc]
    omega
  constructor
  · intro H
    obtain ⟨s1, s2, s3⟩ := ord_swap ho
    have h1 := (key _ s1).mp (H _ s1)
    have h2 := (key _ s2).mp (H _ s2)
    have h3 := (key _ s3).mp (H _ s3)
    unfold row at h1 h2 h3
    simp only [List.map_cons, List.map_nil, List.flatten_cons, List.flatten_nil, List.append_nil] at h1 h2 h3
    generalize sg (wd D a) = A at *
    generalize sg (wd D b) = B at *
    generalize sg (wd D c) = C at *
    generalize sg (wd D d) = E at *
    have sw : ∀ (x y z : List Nat), s * numL (x ++ (y ++ z)) ≤ s * numL (y ++ (x ++ z)) → rel s x y := fun x y z hh => by
      rw [← List.append_assoc, ← List.append_assoc, numL_app (x ++ y) z, numL_app (y ++ x) z, num_gap x y] at hh
      have p := pow_pos' z.length
      have e : s * ((numL (y ++ x) + gapL x y) * 64 ^ z.length + numL z) = s * (numL (y ++ x) * 64 ^ z.length + numL z) + s * gapL x y * 64 ^ z.length := by grind
      unfold rel
      have : s * gapL x y * 64 ^ z.length ≤ 0 := by omega
      exact Int.nonpos_of_mul_nonpos_left this (by omega)
    have cut : ∀ (z x y : List Nat), x.length = y.length → s * numL (z ++ x) ≤ s * numL (z ++ y) → s * numL x ≤ s * numL y := fun z x y hl hh => by
      rw [numL_app, numL_app, hl, Int.mul_add, Int.mul_add] at hh
      omega
    refine ⟨sw A B _ h1, sw B C E (cut A _ _ (by simp; omega) h2), ?_⟩
    have h4 := cut A _ _ (by simp; omega) h3
    have h5 := cut B _ _ (by simp; omega) h4
    exact sw C E [] (by simpa using h5)
  · rintro ⟨h1, h2, h3⟩ o' ho'
    rw [key o' ho']
    refine num_least _ ?_ _ (row_perm ho ho')
    unfold row
    have h13 := rel_trans lb la lc h1 h2
    have h24 := rel_trans lc lb ld h2 h3
    have h14 := rel_trans lb la ld h1 h24
    simp only [List.map_cons, List.map_nil, List.pairwise_cons, List.mem_cons, List.not_mem_nil, or_false]
    refine ⟨fun x hx => ?_, fun x hx => ?_, fun x hx => ?_, fun x hx => hx.elim, .nil⟩
    · rcases hx with rfl | rfl | rfl
      · exact h1
      · exact h13
      · exact h14
    · rcases hx with rfl | rfl
      · exact h2
      · exact h24
    · rw [hx]; exact h3

/-- the gaps are those of the words -/
theorem gap_at {D : List Int} (h : D.length = 4) {a b c d : Nat} (ho : [a, b, c, d] ∈ ords) : gaps D [a, b, c, d] = [gapL (sg (wd D a)) (sg (wd D b)), gapL (sg (wd D b)) (sg (wd D c)), gapL (sg (wd D c)) (sg (wd D d))] := by
  obtain ⟨_, hlt⟩ := ord_facts ho
  have ha := hlt a (by simp)
  have hb := hlt b (by simp)
  have hc := hlt c (by simp)
  have hd := hlt d (by simp)
  have e : gaps D [a, b, c, d] = [gapAt D [a, b, c, d] 0, gapAt D [a, b, c, d] 1, gapAt D [a, b, c, d] 2] := rfl
  rw [e]
  have g : ∀ x y, x < 4 → y < 4 → (vls D).getD x 0 * ((bss D).getD y 0 - 1) - (vls D).getD y 0 * ((bss D).getD x 0 - 1) = gapL (sg (wd D x)) (sg (wd D y)) := fun x y hx hy => by
    rw [vls_at h hx, vls_at h hy, bss_at h hx, bss_at h hy]; rfl
  rw [← g a b ha hb, ← g b c hb hc, ← g c d hc hd]
  rfl

theorem extreme {D : List Int} (h : D.length = 4) {s : Int} {o m : List Nat} (ho : o ∈ ords) (hm : m ∈ ords) (hs : s * s = 1) (hmin : ∀ o' ∈ ords, s * readOf (txt D m) ≤ s * readOf (txt D o')) :
    ellip (pattern D o) (txt D m) = true ↔ ∀ g ∈ gaps D o, s * g ≤ 0 := by
  rw [ellip_order h ho hm]
  have e1 : txt D m = txt D o ↔ ∀ o' ∈ ords, s * readOf (txt D o) ≤ s * readOf (txt D o') := by
    constructor
    · intro e; rw [← e]; exact hmin
    · intro H
      have a1 := H m hm
      have a2 := hmin o ho
      have a3 : s * readOf (txt D m) = s * readOf (txt D o) := Int.le_antisymm a2 a1
      have a4 : readOf (txt D m) = readOf (txt D o) := by
        have := congrArg (fun z => s * z) a3
        simp only [← Int.mul_assoc, hs, Int.one_mul] at this
        exact this
      rw [read_num (txt_let h hm), read_num (txt_let h ho)] at a4
      have a5 : numL (sg (txt D m)) = numL (sg (txt D o)) := by
        have a6 : numL (sg (txt D m)) * 64 + 46 = numL (sg (txt D o)) * 64 + 46 := a4
        omega
      exact sg_inj (num_inj _ _ _ rfl (txt_len hm ho) (txt_let h hm) (txt_let h ho) a5)
  rw [e1]
  obtain ⟨a, b, c, d, rfl, _⟩ := ord_four ho
  rw [sorted_iff h ho, gap_at h ho]
  simp only [List.mem_cons, List.not_mem_nil, or_false, forall_eq_or_imp, forall_eq]
  rfl
end Mine

/-! P10 -/
namespace Mine
set_option linter.unusedVariables false
set_option maxRecDepth 100000

theorem rdg_len (D : List Int) : (rdg D).length = 24 := by unfold rdg; rw [List.length_map]; decide
theorem rdg_mem {D : List Int} {o : List Nat} (ho : o ∈ ords) : readOf (txt D o) ∈ rdg D := List.mem_map.mpr ⟨o, ho, rfl⟩
theorem at_index {D : List Int} {v : Int} (hv : v ∈ rdg D) : ords.getD ((rdg D).idxOf v) [] ∈ ords ∧ readOf (txt D (ords.getD ((rdg D).idxOf v) [])) = v := by
  have hl := List.idxOf_lt_length_of_mem hv
  have hl' : (rdg D).idxOf v < ords.length := by
    have : (rdg D).length = ords.length := by unfold rdg; rw [List.length_map]
    omega
  refine ⟨ord_mem hl', ?_⟩
  have h1 : (rdg D)[(rdg D).idxOf v]? = some v := by rw [List.getElem?_eq_getElem hl, List.getElem_idxOf hl]
  generalize (rdg D).idxOf v = i at *
  unfold rdg at h1
  rw [List.getElem?_map, List.getElem?_eq_getElem hl'] at h1
  rw [List.getD_eq_getElem?_getD, List.getElem?_eq_getElem hl']
  exact Option.some.inj h1
theorem least_ok {D : List Int} : ords.getD (leastI D) [] ∈ ords ∧ ∀ o ∈ ords, readOf (leastT D) ≤ readOf (txt D o) := by
  have hm := minI_spec (l := rdg D) (by rw [rdg_len]; decide)
  have hi := at_index hm.1
  refine ⟨hi.1, fun o ho => ?_⟩
  show readOf (txt D _) ≤ _
  have e : readOf (txt D (ords.getD (leastI D) [])) = minI (rdg D) := hi.2
  rw [e]
  exact hm.2 _ (rdg_mem ho)
theorem great_ok {D : List Int} : ords.getD (greatI D) [] ∈ ords ∧ ∀ o ∈ ords, readOf (txt D o) ≤ readOf (greatT D) := by
  have hm := maxI_spec (l := rdg D) (by rw [rdg_len]; decide)
  have hi := at_index hm.1
  refine ⟨hi.1, fun o ho => ?_⟩
  show _ ≤ readOf (txt D _)
  have e : readOf (txt D (ords.getD (greatI D) [])) = maxI (rdg D) := hi.2
  rw [e]
  exact hm.2 _ (rdg_mem ho)
theorem gaps_len (D : List Int) (o : List Nat) : 0 < (gaps D o).length := by unfold gaps; rw [List.length_map, List.length_range]; decide
theorem c2_ok {D : List Int} (h : D.length = 4) {o : List Nat} (ho : o ∈ ords) : ellip (pattern D o) (leastT D) = decide (maxI (gaps D o) ≤ 0) := by
  obtain ⟨hm, hmin⟩ := least_ok (D := D)
  have hg := maxI_spec (gaps_len D o)
  rw [Bool.eq_iff_iff, decide_eq_true_eq]
  have := extreme (s := 1) h ho hm (by decide) (fun o' ho' => by rw [Int.one_mul, Int.one_mul]; exact hmin o' ho')
  show ellip (pattern D o) (txt D _) = true ↔ _
  rw [this]
  constructor
  · intro H
    have := H _ hg.1
    omega
  · intro H g hgm
    have := hg.2 g hgm
    omega
theorem c3_ok {D : List Int} (h : D.length = 4) {o : List Nat} (ho : o ∈ ords) : ellip (pattern D o) (greatT D) = decide (0 ≤ minI (gaps D o)) := by
  obtain ⟨hm, hmax⟩ := great_ok (D := D)
  have hg := minI_spec (gaps_len D o)
  rw [Bool.eq_iff_iff, decide_eq_true_eq]
  have := extreme (s := -1) h ho hm (by decide) (fun o' ho' => by
    have : readOf (txt D o') ≤ readOf (txt D (ords.getD (greatI D) [])) := hmax o' ho'
    omega)
  show ellip (pattern D o) (txt D _) = true ↔ _
  rw [this]
  constructor
  · intro H
    have := H _ hg.1
    omega
  · intro H g hgm
    have := hg.2 g hgm
    omega

theorem front_eq (D : List Int) : frontT D = leastT D := by
  unfold frontT leastT txt
  rw [wds_eq]
theorem sl_pre {α : Type} {l : List α} {n : Nat} : sl l none (some (n : Int)) = l.take n := by
  have e : clipAt l.length (n : Int) = min n l.length := by unfold clipAt; rw [if_neg (by omega)]; omega
  unfold sl
  show (l.drop 0).take (clipAt l.length (n : Int) - 0) = _
  rw [e, List.drop_zero, Nat.sub_zero]
  by_cases h : n ≤ l.length
  · rw [Nat.min_eq_left h]
  · rw [Nat.min_eq_right (by omega), List.take_length, List.take_of_length_le (by omega)]
theorem sl_suf {α : Type} {l : List α} {n : Nat} (h : n ≤ l.length) : sl l (some (n : Int)) none = l.drop n := by
  unfold sl
  show (l.drop (clipAt l.length n)).take (l.length - clipAt l.length n) = _
  have e : clipAt l.length (n : Int) = n := by unfold clipAt; rw [if_neg (by omega)]; omega
  rw [e, List.take_of_length_le (by rw [List.length_drop]; exact Nat.le_refl _)]
theorem sg_slStr (x : Str) (a b : Option Int) : sg (slStr x a b) = sl (sg x) a b := by
  unfold slStr sg
  simp
theorem c4_ok {D : List Int} (h : D.length = 4) {o : List Nat} (ho : o ∈ ords) : ellip (outer D o) (leastT D) = fitsB D o := by
  obtain ⟨hm, _⟩ := least_ok (D := D)
  obtain ⟨a, b, c, d, rfl, ha, hb, hc, hd⟩ := ord_four ho
  have hl := txt_len (D := D) ho hm
  have hl2 : (sg (leastT D)).length = (sg (wd D a)).length + (sg (wd D b)).length + (sg (wd D c)).length + (sg (wd D d)).length := by
    show (sg (txt D _)).length = _
    rw [hl, txt_row]; unfold row; simp; omega
  have e : outer D [a, b, c, d] = Txt.join mark (wd D a :: ([] ++ [wd D d])) := by
    apply sg_inj
    unfold outer
    rw [sg_app, sg_app, join_sg]
    show sg ((wds D).getD a nilS) ++ sg mark ++ sg ((wds D).getD d nilS) = sg (wd D a) ++ [wd D d].flatMap _
    rw [wds_wd, wds_wd]
    simp
  rw [e, Bool.eq_iff_iff, ellip_two (fun p hp => ?_)]
  · have e2 : fitsB D [a, b, c, d] = ((slStr (leastT D) none (some ((wd D a).length : Int)) == wd D a) && (slStr (leastT D) (some (((leastT D).length : Int) - ((wd D d).length : Int))) none == wd D d)) := by
      unfold fitsB
      rw [front_eq]; rfl
    have sgeq : ∀ x y : Str, x = y ↔ sg x = sg y := fun x y => ⟨fun h => by rw [h], sg_inj⟩
    have e3 : ((leastT D).length : Int) - ((wd D d).length : Int) = (((leastT D).length - (wd D d).length : Nat) : Int) := by
      rw [← sg_len, ← sg_len]; omega
    rw [e2, Bool.and_eq_true, beq_iff_eq, beq_iff_eq, sgeq, sgeq, sg_slStr, sg_slStr, e3, sl_pre, sl_suf (by rw [sg_len]; omega), List.prefix_iff_eq_take, List.suffix_iff_eq_drop, ← sg_len, ← sg_len, ← sg_len]
    constructor
    · rintro ⟨h1, h2, _⟩
      exact ⟨h1.symm, h2.symm⟩
    · rintro ⟨h1, h2⟩
      refine ⟨h1.symm, h2.symm, by omega, ?_⟩
      show (sg (wd D a)).length ≤ _
      rw [List.length_take]; omega
  · have : p = wd D a ∨ p = wd D d := by simpa using hp
    rcases this with rfl | rfl
    · exact wd_dot h ha
    · exact wd_dot h hd
end Mine

/-! P11 -/
namespace Mine
set_option linter.unusedVariables false
set_option maxRecDepth 100000

theorem fold64_lt : ∀ (l : List Int) (a : Int) (m : Nat), 0 ≤ a → a < 64 ^ m → l.foldl (fun a c => a * 64 + c % 64) a < 64 ^ (m + l.length)
  | [], a, m, _, h => h
  | c :: l, a, m, h0, h => by
    have m0 := Int.emod_nonneg c (b := 64) (by decide)
    have m1 := Int.emod_lt_of_pos c (b := 64) (by decide)
    have e : m + (c :: l).length = (m + 1) + l.length := by simp; omega
    rw [List.foldl_cons, e]
    refine fold64_lt l _ (m + 1) (by omega) ?_
    rw [Int.pow_succ]; omega
theorem natAbs_pow {x : Int} {n : Nat} (h0 : 0 ≤ x) (h : x < 64 ^ n) : x.natAbs < 2 ^ (6 * n) := by
  have e : (2 : Nat) ^ (6 * n) = 64 ^ n := by rw [Nat.pow_mul]
  rw [e]
  have : ((64 ^ n : Nat) : Int) = (64 : Int) ^ n := by push_cast; rfl
  omega
theorem vval_bits {ns : List Int} {i : Nat} (h : i < ns.length) : Builtin.Int.intBits (vval ns 0 i) ≤ 6 * (i + 1) := by
  rw [vval_fold i h]
  refine intBits_le_iff.mpr (natAbs_pow (fold64_nn _ 0 (Int.le_refl _)) ?_)
  have := fold64_lt (ns.take (i + 1)) 0 0 (Int.le_refl _) (by decide)
  rw [List.length_take, Nat.min_eq_left (by omega), Nat.zero_add] at this
  exact this
theorem read_bound {t : Str} : 0 ≤ readOf t ∧ readOf t < 64 ^ (t.length + 2) := by
  have hl : (nsOf t).length = (atS ++ t).length + 1 := by
    unfold nsOf
    rw [List.length_append, List.length_map, Array.length_toList]; rfl
  have hl2 : (atS ++ t).length = 1 + t.length := Array.size_append
  unfold readOf
  rw [vval_fold _ (by omega)]
  refine ⟨fold64_nn _ 0 (Int.le_refl _), ?_⟩
  have := fold64_lt ((nsOf t).take ((atS ++ t).length + 1)) 0 0 (Int.le_refl _) (by decide)
  rw [List.length_take, Nat.min_eq_left (by omega), Nat.zero_add, hl2] at this
  rw [show t.length + 2 = 1 + t.length + 1 by omega, hl2]
  exact this
theorem vok_of {t : Str} (h : lett t.cps.toList = true) (hs : t.length ≤ 1000) : VOk (nsOf t) 0 (atS ++ t).length := by
  have hl : (nsOf t).length = (atS ++ t).length + 1 := by
    unfold nsOf
    rw [List.length_append, List.length_map, Array.length_toList]; rfl
  have hl2 : (atS ++ t).length = 1 + t.length := Array.size_append
  have e : nsOf t = ((64 :: t.cps.toList).map fun (c : Nat) => (c : Int)) ++ [174] := by
    unfold nsOf
    have : (atS ++ t).cps.toList = [64] ++ t.cps.toList := by
      show (atS.cps ++ t.cps).toList = _
      rw [Array.toList_append]; rfl
    rw [this]; rfl
  refine ⟨by omega, fun j hj => ?_, ?_, fun j hj => ?_⟩
  · rw [Nat.zero_add, e]
    have hj' : j < (64 :: t.cps.toList).length := by
      rw [List.length_cons, Array.length_toList]
      show j < t.length + 1
      omega
    rw [List.getD_eq_getElem?_getD, List.getElem?_append_left (by rw [List.length_map]; exact hj'), List.getElem?_map, List.getElem?_eq_getElem hj']
    show Builtin.bitAnd (((64 :: t.cps.toList)[j] : Nat) : Int) 64 ≠ 0
    have hm : (64 :: t.cps.toList)[j] ∈ 64 :: t.cps.toList := List.getElem_mem _
    generalize (64 :: t.cps.toList)[j] = c at hm
    rcases List.mem_cons.mp hm with rfl | hm
    · decide
    · have hc := List.all_eq_true.mp h c hm
      have hc' : c = 102 ∨ c = 105 ∨ c = 108 := by simpa [Bool.or_eq_true, or_assoc] using hc
      rcases hc' with rfl | rfl | rfl <;> decide
  · rw [Nat.zero_add, e, List.getD_eq_getElem?_getD, List.getElem?_append_right (by rw [List.length_map, List.length_cons, Array.length_toList]; show t.length + 1 ≤ _; omega)]
    have : (atS ++ t).length - ((64 :: t.cps.toList).map fun (c : Nat) => (c : Int)).length = 0 := by
      rw [List.length_map, List.length_cons, Array.length_toList]
      show _ - (t.length + 1) = 0
      omega
    rw [this]
    decide
  · have := vval_bits (ns := nsOf t) (i := j) (by omega)
    have e27 : (2 : Int) ^ 27 = 134217728 := by decide
    rw [e27]
    omega
theorem lay_small : ∀ (l : List Int) (B : Nat), (∀ x ∈ l, x.natAbs < 2 ^ B) → l.length ≤ 1000 → B ≤ 1000 → (PyData.list (l.map PyData.int)).layable0 = true := fun l B h hl hB => by
  have c : ∀ (l : List Int), PyData.canLayAll0 (l.map PyData.int) = true := fun l => by
    induction l with
    | nil => simp [PyData.canLayAll0]
    | cons x l ih => simp [PyData.canLayAll0, PyData.canLay0, ih]
  have d : ∀ (l : List Int), PyData.depthAll (l.map PyData.int) = 0 := fun l => by
    induction l with
    | nil => simp [PyData.depthAll]
    | cons x l ih => simp [PyData.depthAll, PyData.depth, ih]
  have wt : ∀ (l : List Int), (∀ x ∈ l, x.natAbs < 2 ^ B) → PyData.weightAll (l.map PyData.int) ≤ (B + 2) * l.length := fun l => by
    induction l with
    | nil => intro _; simp [PyData.weightAll]
    | cons x l ih =>
      intro h
      have ih' := ih fun y hy => h y (List.mem_cons_of_mem _ hy)
      have hx := h x List.mem_cons_self
      have hw : PyData.weight (.int x) ≤ B + 1 := by
        unfold PyData.weight
        split
        · omega
        · rename_i hne
          have hne' : x.natAbs ≠ 0 := by
            intro h0
            exact hne (beq_iff_eq.mpr (Int.natAbs_eq_zero.mp h0))
          have := (Nat.log2_lt hne').mpr hx
          omega
      have e : PyData.weightAll ((x :: l).map PyData.int) = PyData.weight (.int x) + 1 + PyData.weightAll (l.map PyData.int) := by
        simp only [List.map_cons, PyData.weightAll]
      rw [e, List.length_cons, Nat.mul_succ]
      omega
  have w1 := wt l h
  have w2 : (B + 2) * l.length ≤ 1002 * 1000 := Nat.mul_le_mul (by omega) hl
  unfold PyData.layable0
  have e1 : PyData.canLay0 (.list (l.map PyData.int)) = true := by simp only [PyData.canLay0]; exact c l
  have e2 : PyData.depth (.list (l.map PyData.int)) = 1 := by simp only [PyData.depth]; rw [d l]
  have e3 : PyData.weight (.list (l.map PyData.int)) = PyData.weightAll (l.map PyData.int) := by simp only [PyData.weight]
  rw [e1, e2, e3]
  have e4 : (2 : Nat) ^ 20 = 1048576 := by decide
  rw [e4]
  simp
  omega

theorem signs_len : (hidden.all fun h => decide ((mapb3 h.toNat).length ≤ 10)) = true ∧ (signsL.all fun h => decide ((mapb3 h.toNat).length ≤ 10)) = true ∧ (thirdL.all fun h => decide ((mapb3 h.toNat).length ≤ 10)) = true := by
  refine ⟨?_, ?_, ?_⟩ <;> decide +kernel
theorem prepStep_len (a : Str) (c : Nat) : (prepStep a c).length ≤ a.length + (mapb3 c).length := by
  unfold prepStep
  split
  · exact Nat.le_add_right _ _
  · have : (a ++ mapb3 c).length = a.length + (mapb3 c).length := Array.size_append
    omega
theorem prep_bound (x : Int) (i c : Nat) (h : (spelled x)[i]? = some c) : (prep ((spelled x).take i)).length + (mapb3 c).length ≤ sizeLine := by
  have m1 := fmod_at (x.fdiv 44) (m := 27) (by decide)
  have m2 := fmod_at x (m := 11) (by decide)
  have m3 := fmod_at (x.fdiv 11) (m := 4) (by decide)
  have i1 : ((x.fdiv 44).fmod 27).toNat < hidden.length := toNat_lt m1.1 m1.2
  have i2 : (x.fmod 11).toNat < signsL.length := toNat_lt m2.1 m2.2
  have i3 : ((x.fdiv 11).fmod 4).toNat < thirdL.length := toNat_lt m3.1 m3.2
  have b1 := of_decide_eq_true (List.all_eq_true.mp signs_len.1 _ (getD_mem i1))
  have b2 := of_decide_eq_true (List.all_eq_true.mp signs_len.2.1 _ (getD_mem i2))
  have b3 := of_decide_eq_true (List.all_eq_true.mp signs_len.2.2 _ (getD_mem i3))
  have e : sizeLine = 16777216 := by decide
  rw [e]
  unfold spelled at h ⊢
  generalize (hidden.getD ((x.fdiv 44).fmod 27).toNat 0).toNat = p at *
  generalize (signsL.getD (x.fmod 11).toNat 0).toNat = q at *
  generalize (thirdL.getD ((x.fdiv 11).fmod 4).toNat 0).toNat = r at *
  have z : (⟨#[]⟩ : Str).length = 0 := rfl
  have s1 := prepStep_len ⟨#[]⟩ p
  have s2 := prepStep_len (prepStep ⟨#[]⟩ p) q
  match i, h with
  | 0, h =>
    have e0 : p = c := Option.some.inj h
    subst e0
    show (⟨#[]⟩ : Str).length + (mapb3 p).length ≤ _
    omega
  | 1, h =>
    have e0 : q = c := Option.some.inj h
    subst e0
    show (prepStep ⟨#[]⟩ p).length + (mapb3 q).length ≤ _
    omega
  | 2, h =>
    have e0 : r = c := Option.some.inj h
    subst e0
    show (prepStep (prepStep ⟨#[]⟩ p) q).length + (mapb3 r).length ≤ _
    omega

theorem txt_le {D : List Int} (h : D.length = 4) {o : List Nat} (ho : o ∈ ords) : (txt D o).length ≤ 16 := by
  obtain ⟨a, b, c, d, rfl, ha, hb, hc, hd⟩ := ord_four ho
  have la := (letters (wd_mem h ha)).2.1
  have lb := (letters (wd_mem h hb)).2.1
  have lc := (letters (wd_mem h hc)).2.1
  have ld := (letters (wd_mem h hd)).2.1
  rw [← sg_len, txt_row]
  unfold row
  simp
  have e : ∀ k, (wd D k).cps.size = (sg (wd D k)).length := fun k => by rw [sg_len]; rfl
  simp only [e]
  omega
theorem pow_small : ∀ n, n ≤ 4 → Builtin.Int.intBits ((64 : Int) ^ n) ≤ 64 ∧ Builtin.Int.intBits ((64 : Int) ^ n - 1) ≤ 64
  | 0, _ => by decide
  | 1, _ => by decide
  | 2, _ => by decide
  | 3, _ => by decide
  | 4, _ => by decide
theorem mns_le {D : List Int} {m : Str} (h : m ∈ mns D) : m.length ≤ 4 := by
  have := (letters (mns_mem h)).2.1
  rwa [sg_len] at this
theorem join_ok (D : List Int) (h : D.length = 4) (g : Str) (hg : g.length ≤ 3) {o : List Nat} (ho : o ∈ ords) (l : List Str) (hl : l = mns D) : JoinOk g (o.map fun k => l.getD k nilS) = true := by
  subst hl
  obtain ⟨a, b, c, d, rfl, ha, hb, hc, hd⟩ := ord_four ho
  have e : ∀ k, k < 4 → ((mns D).getD k nilS).length ≤ 4 := fun k hk => by
    have := (letters (wd_mem h hk)).2.1
    rw [sg_len] at this; exact this
  have la := e a ha
  have lb := e b hb
  have lc := e c hc
  have ld := e d hd
  refine joinOk_of ?_
  simp only [List.map_cons, List.map_nil, List.sum_cons, List.sum_nil, List.length_cons, List.length_nil]
  omega

theorem lawOk_of {D : List Int} (h : D.length = 4) : LawOk D := by
  obtain ⟨hl, _⟩ := least_ok (D := D)
  obtain ⟨hg, _⟩ := great_ok (D := D)
  have eok : ∀ o ∈ ords, ∀ m ∈ ords, EOk (pattern D o) (txt D m) := fun o ho m hm => by
    have lm := txt_le h hm
    obtain ⟨a, b, c, d, rfl, ha, hb, hc, hd⟩ := ord_four ho
    have e : pattern D [a, b, c, d] = Txt.join mark [wd D a, wd D b, wd D c, wd D d] := by
      unfold pattern
      simp only [List.map_cons, List.map_nil, wds_wd]
    have lw : ∀ k, k < 4 → (sg (wd D k)).length ≤ 4 := fun k hk => (letters (wd_mem h hk)).2.1
    have cs : ∀ p ∈ [wd D a, wd D b, wd D c, wd D d], ∃ k, k < 4 ∧ p = wd D k := fun p hp => by
      have : p = wd D a ∨ p = wd D b ∨ p = wd D c ∨ p = wd D d := by simpa using hp
      rcases this with rfl | rfl | rfl | rfl
      · exact ⟨a, ha, rfl⟩
      · exact ⟨b, hb, rfl⟩
      · exact ⟨c, hc, rfl⟩
      · exact ⟨d, hd, rfl⟩
    rw [e]
    refine eok_of (fun p hp => ?_) (fun p hp => ?_) (by simp) ?_ (by omega)
    · obtain ⟨k, hk, rfl⟩ := cs p hp; exact wd_dot h hk
    · obtain ⟨k, hk, rfl⟩ := cs p hp
      have := lw k hk
      rw [sg_len] at this; omega
    · rw [← sg_len, join_sg]
      simp only [List.flatMap_cons, List.flatMap_nil, List.length_append, sg_mark, List.length_cons, List.length_nil]
      have := lw a ha; have := lw b hb; have := lw c hc; have := lw d hd
      omega
  have eout : ∀ o ∈ ords, EOk (outer D o) (leastT D) := fun o ho => by
    have lm := txt_le h hl
    obtain ⟨a, b, c, d, rfl, ha, hb, hc, hd⟩ := ord_four ho
    have e : outer D [a, b, c, d] = Txt.join mark [wd D a, wd D d] := by
      apply sg_inj
      unfold outer
      rw [sg_app, sg_app, join_sg]
      show sg ((wds D).getD a nilS) ++ sg mark ++ sg ((wds D).getD d nilS) = sg (wd D a) ++ [wd D d].flatMap _
      rw [wds_wd, wds_wd]
      simp
    have lw : ∀ k, k < 4 → (sg (wd D k)).length ≤ 4 := fun k hk => (letters (wd_mem h hk)).2.1
    have cs : ∀ p ∈ [wd D a, wd D d], ∃ k, k < 4 ∧ p = wd D k := fun p hp => by
      have : p = wd D a ∨ p = wd D d := by simpa using hp
      rcases this with rfl | rfl
      · exact ⟨a, ha, rfl⟩
      · exact ⟨d, hd, rfl⟩
    rw [e]
    refine eok_of (fun p hp => ?_) (fun p hp => ?_) (by simp) ?_ (by show (txt D _).length ≤ 1000; omega)
    · obtain ⟨k, hk, rfl⟩ := cs p hp; exact wd_dot h hk
    · obtain ⟨k, hk, rfl⟩ := cs p hp
      have := lw k hk
      rw [sg_len] at this; omega
    · rw [← sg_len, join_sg]
      simp only [List.flatMap_cons, List.flatMap_nil, List.length_append, sg_mark, List.length_cons, List.length_nil]
      have := lw a ha; have := lw d hd
      omega
  exact {
    four := h
    prepL := fun x _ i c hc => prep_bound x i c hc
    num := fun m hm => num_ok (mns_mem hm)
    join := fun o ho => join_ok D h nilS (by decide) ho _ (wds_eq D)
    joinM := join_ok D h nilS (by decide) hl _ rfl
    joinP := fun o ho => join_ok D h mark (by decide) ho _ (wds_eq D)
    at_ := fun o ho => by
      have := txt_le h ho
      have e : atS.length = 1 := by decide
      omega
    vok := fun o ho => vok_of (txt_let h ho) (by have := txt_le h ho; omega)
    minM := (minI_spec (by rw [rdg_len]; decide)).1
    maxM := (maxI_spec (by rw [rdg_len]; decide)).1
    lay := lay_small _ 108 (fun x hx => by
      obtain ⟨o, ho, rfl⟩ := List.mem_map.mp hx
      have hb := read_bound (t := txt D o)
      have := txt_le h ho
      have := natAbs_pow hb.1 hb.2
      refine Nat.lt_of_lt_of_le this (Nat.pow_le_pow_right (by decide) (by omega))) (by rw [rdg_len]; decide) (by decide)
    mul := fun a b ha hb => by
      rw [bss_at h hb]
      exact IntMulOk.of_right (pow_small _ (letters (wd_mem h hb)).2.1).2
    mulD := fun acc b hb => by
      rw [bss_at h hb]
      exact IntMulOk.of_right (pow_small _ (letters (wd_mem h hb)).2.1).1
    wordL := fun x hx => by
      rw [wds_eq] at hx
      have := mns_le hx
      omega
    meantL := fun x hx => by
      have := mns_le hx
      omega
    e1 := fun o ho => ⟨eok o ho _ hl, eok o ho _ hg, eout o ho⟩
    frontL := by
      rw [front_eq]
      have := txt_le h hl
      show (txt D _).length ≤ 1000
      omega
    c1 := fun o ho => c1_ok h ho
    c2 := fun o ho => c2_ok h ho
    c3 := fun o ho => c3_ok h ho
    c4 := fun o ho => c4_ok h ho }
theorem drawn1_len (xs : List Int) : (drawn1 xs).length = 4 := draw_len _
end Mine

/-! X2 -/
namespace Mine
set_option linter.unusedVariables false
set_option maxRecDepth 100000
/-- the looks at the row, each apart -/
theorem z_said : LL.wellSaid = true := by
  unfold OpenLaw.wellSaid
  repeat' (with_reducible refine look_both ?_ ?_)
  all_goals (try unfold OpenRow.wellSaid)
  all_goals (repeat' (with_reducible refine look_both ?_ ?_))
  all_goals (try unfold OpenRow.partSaid)
  all_goals (repeat' (with_reducible refine look_both ?_ ?_))
  all_goals (try unfold looksOpen)
  all_goals (repeat' (with_reducible refine look_both ?_ ?_))
  all_goals decide +kernel
theorem row_holds : PySem.Challenge.rw_rw0092_01.Holds := holds_law z_said fun said => ⟨said, z_prom, z_open fun xs _ => lawOk_of (drawn1_len xs)⟩
end Mine

set_option maxRecDepth 100000 in
set_option maxHeartbeats 8000000 in
theorem PySem.Challenge.cw_rw0092_01_holds : PySem.Challenge.rw_rw0092_01.Holds := by
  exact Mine.row_holds
