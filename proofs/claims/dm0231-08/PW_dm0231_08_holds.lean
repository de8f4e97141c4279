import PyProof.Rows.All
import Wide.All
import OpenK.AllK
import Wide.FinOn
import Lean
import PySem.Challenge.RW_dm0231_08
set_option Elab.async false
set_option maxRecDepth 100000
set_option linter.unusedVariables false
set_option maxHeartbeats 4000000
set_option maxRecDepth 100000
set_option linter.unusedVariables false
namespace Mine
open PySem PySem.W PyProof.Rows PySem.Calls

/-! ## plain values and what stands for them -/
inductive PV where
  | none
  | bool (b : Bool)
  | int (i : Int)
  | bytes (b : List UInt8)
  | list (xs : List PV)
  | tup (xs : List PV)

mutual
inductive Rep (h : Heap) (ok : Addr → Prop) : Value → PV → Prop
  | none : Rep h ok .none .none
  | bool (b : Bool) : Rep h ok (.bool b) (.bool b)
  | int (i : Int) (t : Tok) : Rep h ok (.int i t) (.int i)
  | bytes (b : List UInt8) (t : Tok) : Rep h ok (.bytes b.toArray t) (.bytes b)
  | list {a : Addr} {n : Nat} {items : List Value} {xs : List PV} : ok a → IsL h a items.toArray n → RepAll h ok items xs → Rep h ok (.ref a) (.list xs)
  | tup {a : Addr} {n : Nat} {items : List Value} {xs : List PV} : ok a → IsT h a items.toArray n → RepAll h ok items xs → Rep h ok (.ref a) (.tup xs)
inductive RepAll (h : Heap) (ok : Addr → Prop) : List Value → List PV → Prop
  | nil : RepAll h ok [] []
  | cons {v : Value} {vs : List Value} {x : PV} {xs : List PV} : Rep h ok v x → RepAll h ok vs xs → RepAll h ok (v :: vs) (x :: xs)
end

mutual
theorem Rep.mono {h h' : Heap} {ok ok' : Addr → Prop} (hk : ∀ a o, ok a → h.get? a = some o → h'.get? a = some o) (ho : ∀ a, ok a → ok' a) :
    ∀ {v : Value} {x : PV}, Rep h ok v x → Rep h' ok' v x
  | _, _, .none => .none
  | _, _, .bool b => .bool b
  | _, _, .int i t => .int i t
  | _, _, .bytes b t => .bytes b t
  | _, _, .list ha hl hr => .list (ho _ ha) (hk _ _ ha hl) (RepAll.mono hk ho hr)
  | _, _, .tup ha hl hr => .tup (ho _ ha) (hk _ _ ha hl) (RepAll.mono hk ho hr)
theorem RepAll.mono {h h' : Heap} {ok ok' : Addr → Prop} (hk : ∀ a o, ok a → h.get? a = some o → h'.get? a = some o) (ho : ∀ a, ok a → ok' a) :
    ∀ {vs : List Value} {xs : List PV}, RepAll h ok vs xs → RepAll h' ok' vs xs
  | _, _, .nil => .nil
  | _, _, .cons h1 h2 => .cons (Rep.mono hk ho h1) (RepAll.mono hk ho h2)
end

mutual
theorem Rep.map {h h' : Heap} {ok ok' : Addr → Prop} (H : ∀ b o, ok b → h.get? b = some o → (∃ its n, o.data = .seq its n) → h'.get? b = some o ∧ ok' b) :
    ∀ {v : Value} {x : PV}, Rep h ok v x → Rep h' ok' v x
  | _, _, .none => .none
  | _, _, .bool b => .bool b
  | _, _, .int i t => .int i t
  | _, _, .bytes b t => .bytes b t
  | _, _, .list ha hl hr => .list (H _ _ ha hl ⟨_, _, rfl⟩).2 (H _ _ ha hl ⟨_, _, rfl⟩).1 (RepAll.map H hr)
  | _, _, .tup ha hl hr => .tup (H _ _ ha hl ⟨_, _, rfl⟩).2 (H _ _ ha hl ⟨_, _, rfl⟩).1 (RepAll.map H hr)
theorem RepAll.map {h h' : Heap} {ok ok' : Addr → Prop} (H : ∀ b o, ok b → h.get? b = some o → (∃ its n, o.data = .seq its n) → h'.get? b = some o ∧ ok' b) :
    ∀ {vs : List Value} {xs : List PV}, RepAll h ok vs xs → RepAll h' ok' vs xs
  | _, _, .nil => .nil
  | _, _, .cons h1 h2 => .cons (Rep.map H h1) (RepAll.map H h2)
end

abbrev Any : Addr → Prop := fun _ => True
theorem Rep.keeps {s s' : Shared} {ok : Addr → Prop} {v : Value} {x : PV} (r : Rep s.heap ok v x) (k : Keeps s s') : Rep s'.heap ok v x := by
  obtain ⟨h', tk, rfl, hk⟩ := k
  exact r.mono (fun a o _ e => hk a o e) (fun _ h => h)
theorem RepAll.keeps {s s' : Shared} {ok : Addr → Prop} {v : List Value} {x : List PV} (r : RepAll s.heap ok v x) (k : Keeps s s') : RepAll s'.heap ok v x := by
  obtain ⟨h', tk, rfl, hk⟩ := k
  exact r.mono (fun a o _ e => hk a o e) (fun _ h => h)
theorem Rep.any {h : Heap} {ok : Addr → Prop} {v : Value} {x : PV} (r : Rep h ok v x) : Rep h Any v x := r.mono (fun _ _ _ e => e) (fun _ _ => trivial)
theorem RepAll.any {h : Heap} {ok : Addr → Prop} {v : List Value} {x : List PV} (r : RepAll h ok v x) : RepAll h Any v x := r.mono (fun _ _ _ e => e) (fun _ _ => trivial)
theorem RepAll.length {h : Heap} {ok : Addr → Prop} : ∀ {vs : List Value} {xs : List PV}, RepAll h ok vs xs → vs.length = xs.length
  | _, _, .nil => rfl
  | _, _, .cons _ t => by simp [t.length]
theorem RepAll.get {h : Heap} {ok : Addr → Prop} : ∀ {vs : List Value} {xs : List PV}, RepAll h ok vs xs → ∀ {i : Nat} {x : PV}, xs[i]? = some x → ∃ v, vs[i]? = some v ∧ Rep h ok v x
  | _, _, .nil, _, _, e => by simp at e
  | _, _, .cons (v := v) r t, 0, x, e => ⟨v, rfl, by simp at e; exact e ▸ r⟩
  | _, _, .cons _ t, i + 1, x, e => by simpa using t.get (i := i) (by simpa using e)
theorem RepAll.get' {h : Heap} {ok : Addr → Prop} : ∀ {vs : List Value} {xs : List PV}, RepAll h ok vs xs → ∀ {i : Nat} {v : Value}, vs[i]? = some v → ∃ x, xs[i]? = some x ∧ Rep h ok v x
  | _, _, .nil, _, _, e => by simp at e
  | _, _, .cons (x := x) r t, 0, v, e => ⟨x, rfl, by simp at e; exact e ▸ r⟩
  | _, _, .cons _ t, i + 1, v, e => by simpa using t.get' (i := i) (by simpa using e)
theorem RepAll.append {h : Heap} {ok : Addr → Prop} : ∀ {vs ws : List Value} {xs ys : List PV}, RepAll h ok vs xs → RepAll h ok ws ys → RepAll h ok (vs ++ ws) (xs ++ ys)
  | _, _, _, _, .nil, t => t
  | _, _, _, _, .cons r q, t => .cons r (q.append t)
theorem RepAll.take {h : Heap} {ok : Addr → Prop} : ∀ {vs : List Value} {xs : List PV} (n : Nat), RepAll h ok vs xs → RepAll h ok (vs.take n) (xs.take n)
  | _, _, 0, _ => by simpa using RepAll.nil
  | _, _, n + 1, .nil => by simpa using RepAll.nil
  | _, _, n + 1, .cons r q => by simpa using RepAll.cons r (q.take n)
theorem RepAll.drop {h : Heap} {ok : Addr → Prop} : ∀ {vs : List Value} {xs : List PV} (n : Nat), RepAll h ok vs xs → RepAll h ok (vs.drop n) (xs.drop n)
  | _, _, 0, r => by simpa using r
  | _, _, n + 1, .nil => by simpa using RepAll.nil
  | _, _, n + 1, .cons r q => by simpa using q.drop n
theorem RepAll.reverse {h : Heap} {ok : Addr → Prop} : ∀ {vs : List Value} {xs : List PV}, RepAll h ok vs xs → RepAll h ok vs.reverse xs.reverse
  | _, _, .nil => by simpa using RepAll.nil
  | _, _, .cons r q => by simpa using q.reverse.append (.cons r .nil)
theorem RepAll.of_get {h : Heap} {ok : Addr → Prop} : ∀ {vs : List Value} {xs : List PV}, vs.length = xs.length → (∀ (i : Nat) v x, vs[i]? = some v → xs[i]? = some x → Rep h ok v x) → RepAll h ok vs xs
  | [], [], _, _ => .nil
  | v :: vs, x :: xs, e, H => .cons (H 0 v x rfl rfl) (RepAll.of_get (by simpa using e) fun i v x h1 h2 => H (i + 1) v x (by simpa using h1) (by simpa using h2))
  | [], _ :: _, e, _ => by simp at e
  | _ :: _, [], e, _ => by simp at e

/-! ## frames -/
structure Fn where
  name : PySem.Str
  params : Arguments
  body : List Stmt
  scope : Scope

structure Base (mg mb : PySem.Str → Option Value) (fns : List Fn) (h : Heap) : Prop where
  g : h.Ns mainGlobals mg
  b : h.Ns builtinsNs mb
  nolimit : h.NoLimit
  seer : h.NoSeer
  boot : ∀ x : PySem.Str, x ≠ "__name__" → mb x = bootBuiltins x
  fn : ∀ d ∈ fns, ∃ a o pm code doc, mg d.name = some (.ref a) ∧ h.get? a = some o ∧ o.data = .func (docDef d.name d.params d.body d.scope pm code doc) ∧ h.CodeRec code d.name
  free : ∀ x ∈ (["len", "range", "bytes", "type", "int", "sum", "abs", "divmod", "max"] : List PySem.Str), mg x = none

theorem Base.keeps {mg mb : PySem.Str → Option Value} {fns : List Fn} {h h' : Heap} (B : Base mg mb fns h) (hk : ∀ b o, h.get? b = some o → h'.get? b = some o) : Base mg mb fns h' where
  g := B.g.keeps hk
  b := B.b.keeps hk
  nolimit := B.nolimit.keeps hk
  seer := B.seer.keeps hk
  boot := B.boot
  fn := fun d hd => let ⟨a, o, pm, code, doc, h1, h2, h3, h4⟩ := B.fn d hd; ⟨a, o, pm, code, doc, h1, hk _ _ h2, h3, h4.keeps hk⟩
  free := B.free

structure Fx where
  prog : Program
  w : World
  A : Around
  env : Env
  h₀ : Heap
  mg : PySem.Str → Option Value
  mb : PySem.Str → Option Value
  fns : List Fn
  lv : Nat
  kind : env.scope.kind = .function
  glob : env.globals = mainGlobals
  blt : env.builtins = builtinsNs
  handled : A.handled = .none
  depth : A.depth + lv < 400
  units : A.units + 10 * lv < 3000
  tree : prog.given.tree = .none
  frames : ∃ e l, A.frames = some (e :: l) ∧ e.scope.isGenerator = false ∧ e.scope.isCoroutine = false ∧ e.builtins = builtinsNs ∧ e.globals = mainGlobals
  base : Base mg mb fns h₀
  ban : Addr → Prop
  banned : ∀ b, ban b → b ≤ env.locals

abbrev Loc := PySem.Str → Option PV
def upd (m : Loc) (x : PySem.Str) (v : PV) : Loc := fun y => if y = x then some v else m y
theorem upd_same (m : Loc) (x : PySem.Str) (v : PV) : upd m x v x = some v := if_pos rfl
theorem upd_ne {m : Loc} {x y : PySem.Str} {v : PV} {r : Option PV} (h : y ≠ x) (e : m y = r) : upd m x v y = r := (if_neg h).trans e

/-- what the mutable list's address allows -/
def okOf (k : Option PySem.Str) (a : Addr) : Addr → Prop := fun b => k.isSome = true → b ≠ a

def Fx.any (c : Fx) : Addr → Prop := fun b => ¬ c.ban b
def okC (c : Fx) (k : Option PySem.Str) (a : Addr) : Addr → Prop := fun b => ¬ c.ban b ∧ okOf k a b

structure St (c : Fx) (m : Loc) (k : Option PySem.Str) (a : Addr) (s : Shared) : Prop where
  ex : ∃ mv, Fr c.h₀ c.env.locals s.heap mv ∧
    (∀ x v, m x = some v → ∃ u, mv x = some u ∧ if k = some x then u = .ref a ∧ Rep s.heap c.any u v else Rep s.heap (okC c k a) u v) ∧
    (∀ x, k = some x → mv x = some (.ref a) ∧ c.h₀.get? a = .none ∧ a ≠ c.env.locals ∧ ∃ its n, IsL s.heap a its n)

theorem Fr.grow {h₀ h h' : Heap} {L : Addr} {m : PySem.Str → Option Value} (F : Fr h₀ L h m) (hk : ∀ b o, h.get? b = some o → h'.get? b = some o) : Fr h₀ L h' m :=
  ⟨F.ns.keeps hk, fun b o e => hk b o (F.keep b o e), F.above⟩
theorem St.keeps {c : Fx} {m : Loc} {k : Option PySem.Str} {a : Addr} {s s' : Shared} (S : St c m k a s) (K : Keeps s s') : St c m k a s' := by
  obtain ⟨h', tk, rfl, hk⟩ := K
  obtain ⟨mv, F, hv, hm⟩ := S.ex
  refine ⟨mv, Fr.grow F hk, fun x v e => ?_, fun x e => let ⟨h1, h2, h3, its, n, h4⟩ := hm x e; ⟨h1, h2, h3, its, n, hk _ _ h4⟩⟩
  obtain ⟨u, h1, h2⟩ := hv x v e
  refine ⟨u, h1, ?_⟩
  split
  · rename_i q; rw [if_pos q] at h2; exact ⟨h2.1, h2.2.mono (fun a o _ e => hk a o e) fun _ h => h⟩
  · rename_i q; rw [if_neg q] at h2; exact h2.mono (fun a o _ e => hk a o e) fun _ h => h

theorem krefl (s : Shared) : Keeps s s := ⟨s.heap, s.toks, rfl, fun _ _ e => e⟩
theorem ktrans {s₁ s₂ s₃ : Shared} (h : Keeps s₁ s₂) (h' : Keeps s₂ s₃) : Keeps s₁ s₃ := by
  obtain ⟨h1, t1, rfl, k1⟩ := h
  obtain ⟨h2, t2, rfl, k2⟩ := h'
  exact ⟨h2, t2, rfl, fun b o e => k2 b o (k1 b o e)⟩
theorem ktoks (s : Shared) (n : Nat) : Keeps s { s with toks := n } := ⟨s.heap, n, rfl, fun _ _ e => e⟩
theorem kpush (s : Shared) (o : Obj) : Keeps s { s with heap := s.heap.push o } := ⟨_, s.toks, rfl, fun _ _ e => Heap.get?_push_of_some _ e⟩
theorem kmk {s : Shared} {h : Heap} {t : Nat} (hk : ∀ b o, s.heap.get? b = some o → h.get? b = some o) : Keeps s { s with heap := h, toks := t } := ⟨h, t, rfl, hk⟩

/-- the heap holds what the frame's base held -/
def Fx.In (c : Fx) (s : Shared) : Prop := ∀ b o, c.h₀.get? b = some o → s.heap.get? b = some o
theorem St.in {c : Fx} {m : Loc} {k : Option PySem.Str} {a : Addr} {s : Shared} (S : St c m k a s) : c.In s := let ⟨_, F, _⟩ := S.ex; F.keep
theorem Fx.In.keeps {c : Fx} {s s' : Shared} (h : c.In s) (K : Keeps s s') : c.In s' := by
  obtain ⟨h', tk, rfl, hk⟩ := K
  exact fun b o e => hk b o (h b o e)

/-! ## judgements -/
abbrev Fx.M (c : Fx) : Model := model c.prog c.w

/-- a tree that ends with a value for v, the heap only grown -/
def Gv (c : Fx) (ok : Addr → Prop) (s : Shared) (t : Sem Value) (v : PV) : Prop :=
  ∀ (Q : Value → Shared → Prop) (E : Value → Shared → Prop), (∀ u s', Keeps s s' → Rep s'.heap ok u v → Q u s') → wpAny c.M c.A t Q E s

def Ev (c : Fx) (m : Loc) (k : Option PySem.Str) (e : Expr) (v : PV) : Prop :=
  ∀ (s : Shared) (a : Addr), St c m k a s → Gv c (okC c k a) s (eval e c.env) v
/-- the same, where the value may be the mutable list itself -/
def EvW (c : Fx) (m : Loc) (k : Option PySem.Str) (e : Expr) (v : PV) : Prop :=
  ∀ (s : Shared) (a : Addr), St c m k a s → Gv c c.any s (eval e c.env) v
theorem Ev.w {c : Fx} {m : Loc} {k : Option PySem.Str} {e : Expr} {v : PV} (h : Ev c m k e v) : EvW c m k e v :=
  fun s a S Q E hQ => h s a S Q E fun u s' K r => hQ u s' K (r.mono (fun _ _ _ e => e) fun _ h => h.1)

def Tst (c : Fx) (m : Loc) (k : Option PySem.Str) (e : Expr) (b : Bool) : Prop :=
  ∀ (s : Shared) (a : Addr), St c m k a s → ∀ (Q : Bool → Shared → Prop) (E : Value → Shared → Prop), (∀ s', Keeps s s' → Q b s') → wpAny c.M c.A (isTrue e c.env (eval e c.env)) Q E s

structure Ext (X : Addr → Prop) (k : Option PySem.Str) (a : Addr) (k' : Option PySem.Str) (a' : Addr) (s s' : Shared) : Prop where
  same : ∃ h tk, s' = { s with heap := h, toks := tk }
  kept : ∀ b o, ¬ X b → okOf k a b → s.heap.get? b = some o → s'.heap.get? b = some o
  live : ∀ b o, s.heap.get? b = some o → ∃ o', s'.heap.get? b = some o'
  from' : k'.isSome = true → (k.isSome = true ∧ a' = a) ∨ s.heap.get? a' = .none
theorem Ext.refl {X : Addr → Prop} {k : Option PySem.Str} {a : Addr} {s : Shared} : Ext X k a k a s s := ⟨⟨_, _, rfl⟩, fun _ _ _ _ e => e, fun _ o e => ⟨o, e⟩, fun h => .inl ⟨h, rfl⟩⟩
theorem Ext.of_keeps {X : Addr → Prop} {k : Option PySem.Str} {a : Addr} {s s' : Shared} (K : Keeps s s') : Ext X k a k a s s' := by
  obtain ⟨h', tk, rfl, hk⟩ := K
  exact ⟨⟨_, _, rfl⟩, fun b o _ _ e => hk b o e, fun b o e => ⟨o, hk b o e⟩, fun h => .inl ⟨h, rfl⟩⟩
theorem Ext.weaken {X X' : Addr → Prop} {k k' : Option PySem.Str} {a a' : Addr} {s s' : Shared} (h : Ext X k a k' a' s s') (hX : ∀ b, X b → X' b) : Ext X' k a k' a' s s' :=
  ⟨h.same, fun b o hb => h.kept b o fun q => hb (hX b q), h.live, h.from'⟩
/-- what is kept out of the mutable list's way at the start is so at the end -/
theorem Ext.off {X : Addr → Prop} {k k' : Option PySem.Str} {a a' : Addr} {s s' : Shared} (h : Ext X k a k' a' s s') {b : Addr} {o : Obj} (hok : okOf k a b) (e : s.heap.get? b = some o) : okOf k' a' b := by
  intro q
  rcases h.from' q with ⟨p1, rfl⟩ | p
  · exact hok p1
  · intro z; subst z; rw [e] at p; cases p
theorem Ext.trans {X : Addr → Prop} {k k' k'' : Option PySem.Str} {a a' a'' : Addr} {s s' s'' : Shared} (h : Ext X k a k' a' s s') (h' : Ext X k' a' k'' a'' s' s'') : Ext X k a k'' a'' s s'' := by
  refine ⟨?_, fun b o hb hok e => h'.kept b o hb (h.off hok e) (h.kept b o hb hok e), fun b o e => let ⟨o', e'⟩ := h.live b o e; h'.live b o' e', fun q => ?_⟩
  · obtain ⟨h1, t1, rfl⟩ := h.same
    obtain ⟨h2, t2, rfl⟩ := h'.same
    exact ⟨h2, t2, rfl⟩
  · rcases h'.from' q with ⟨p1, rfl⟩ | p
    · exact h.from' p1
    · right
      cases z : s.heap.get? a'' with
      | none => rfl
      | some o => obtain ⟨o', w⟩ := h.live _ _ z; rw [w] at p; cases p

/-- a block's end: none (goes on) or a value returned -/
inductive Fl (c : Fx) (h : Heap) : Flow → Option PV → Prop
  | next : Fl c h .next none
  | ret {u : Value} {v : PV} : Rep h c.any u v → Fl c h (.ret u) (some v)

def Ex (c : Fx) (m : Loc) (k : Option PySem.Str) (ss : List Stmt) (P : Option PV → Loc → Option PySem.Str → Prop) : Prop :=
  ∀ (s : Shared) (a : Addr) (E : Value → Shared → Prop), St c m k a s →
    wpAny c.M c.A (execs ss c.env) (fun f s' => ∃ r m' k' a', Fl c s'.heap f r ∧ St c m' k' a' s' ∧ Ext (· = c.env.locals) k a k' a' s s' ∧ P r m' k') E s
/-- the same for one statement -/
def Ex1 (c : Fx) (m : Loc) (k : Option PySem.Str) (st : Stmt) (P : Option PV → Loc → Option PySem.Str → Prop) : Prop :=
  ∀ (s : Shared) (a : Addr) (E : Value → Shared → Prop), St c m k a s →
    wpAny c.M c.A (exec st c.env) (fun f s' => ∃ r m' k' a', Fl c s'.heap f r ∧ St c m' k' a' s' ∧ Ext (· = c.env.locals) k a k' a' s s' ∧ P r m' k') E s

/-- what is to hold behind a statement, when rest follows -/
def Then (c : Fx) (rest : List Stmt) (P : Option PV → Loc → Option PySem.Str → Prop) : Option PV → Loc → Option PySem.Str → Prop
  | none, m, k => Ex c m k rest P
  | some v, m, k => P (some v) m k

variable {c : Fx} {m : Loc} {k : Option PySem.Str}
theorem Ex.nil {P : Option PV → Loc → Option PySem.Str → Prop} (h : P none m k) : Ex c m k [] P :=
  fun s a E S => wpAny_execs_nil ⟨none, m, k, a, .next, S, .refl, h⟩
theorem Ex.cons {st : Stmt} {rest : List Stmt} {P : Option PV → Loc → Option PySem.Str → Prop} (h : Ex1 c m k st (Then c rest P)) : Ex c m k (st :: rest) P := by
  intro s a E S
  refine wpAny_execs_cons (wpAny_mono (h s a E S) ?_ fun _ _ e => e)
  rintro f s' ⟨r, m', k', a', hf, S', X, hP⟩
  cases hf with
  | next => exact wpAny_mono (hP s' a' E S') (fun f' s'' ⟨r', m'', k'', a'', h1, h2, h3, h4⟩ => ⟨r', m'', k'', a'', h1, h2, X.trans h3, h4⟩) fun _ _ e => e
  | ret hr => exact ⟨_, m', k', a', .ret hr, S', X, hP⟩
theorem Ex1.mono {st : Stmt} {P P' : Option PV → Loc → Option PySem.Str → Prop} (h : Ex1 c m k st P) (H : ∀ r m k, P r m k → P' r m k) : Ex1 c m k st P' :=
  fun s a E S => wpAny_mono (h s a E S) (fun _ _ ⟨r, m', k', a', h1, h2, h3, h4⟩ => ⟨r, m', k', a', h1, h2, h3, H _ _ _ h4⟩) fun _ _ e => e
theorem Ex.mono {ss : List Stmt} {P P' : Option PV → Loc → Option PySem.Str → Prop} (h : Ex c m k ss P) (H : ∀ r m k, P r m k → P' r m k) : Ex c m k ss P' :=
  fun s a E S => wpAny_mono (h s a E S) (fun _ _ ⟨r, m', k', a', h1, h2, h3, h4⟩ => ⟨r, m', k', a', h1, h2, h3, H _ _ _ h4⟩) fun _ _ e => e

/-- a Gv by a tree that ends in a value that is at hand -/
theorem Gv.pure' {ok : Addr → Prop} {s : Shared} {u : Value} {v : PV} (r : Rep s.heap ok u v) : Gv c ok s (pure u) v := fun _ _ hQ => wpAny_pure (hQ u s (krefl s) r)
theorem Gv.keep {ok : Addr → Prop} {s s' : Shared} {t : Sem Value} {v : PV} (K : Keeps s s') (h : Gv c ok s' t v) {Q : Value → Shared → Prop} {E : Value → Shared → Prop} (hQ : ∀ u s'', Keeps s s'' → Rep s''.heap ok u v → Q u s'') : wpAny c.M c.A t Q E s' :=
  h Q E fun u s'' K' r => hQ u s'' (ktrans K K') r
end Mine

set_option maxRecDepth 100000
set_option linter.unusedVariables false
namespace Mine
open PySem PySem.W PyProof.Rows PySem.Calls
variable {c : Fx} {m : Loc} {k : Option PySem.Str}

/-! ## constants, names -/
theorem Ev.cint {i : Int} {n : Nat} {pos : Pos} : Ev c m k (.Constant (.int i) n pos) (.int i) :=
  fun s a S Q E hQ => wpAny_Constant_int (hQ _ _ (ktoks s _) (.int _ _))
theorem Ev.cbool {b : Bool} {n : Nat} {pos : Pos} : Ev c m k (.Constant (.bool b) n pos) (.bool b) :=
  fun s a S Q E hQ => Constant_bool (hQ _ _ (krefl s) (.bool _))
theorem Ev.cbytes {x : List UInt8} {n : Nat} {pos : Pos} : Ev c m k (.Constant (.bytes x) n pos) (.bytes x) :=
  fun s a S Q E hQ => Constant_bytes (hQ _ _ (ktoks s _) (.bytes _ _))

theorem EvW.name {x : PySem.Str} {pos : Pos} {v : PV} (hv : m x = some v) (hl : c.env.kindOf x = some .local) (hd : (x == ("__debug__" : PySem.Str)) = false) : EvW c m k (.Name x pos) v := by
  intro s a S Q E hQ
  obtain ⟨mv, F, H, _⟩ := S.ex
  obtain ⟨u, h1, h2⟩ := H x v hv
  refine wpAny_Name (wpAny_loadName_local c.kind hl F.ns h1 (hQ u s (krefl s) ?_)) hd
  split at h2
  · exact h2.2
  · exact h2.mono (fun _ _ _ e => e) fun _ h => h.1
theorem Ev.name {x : PySem.Str} {pos : Pos} {v : PV} (hv : m x = some v) (hx : k ≠ some x) (hl : c.env.kindOf x = some .local) (hd : (x == ("__debug__" : PySem.Str)) = false) : Ev c m k (.Name x pos) v := by
  intro s a S Q E hQ
  obtain ⟨mv, F, H, _⟩ := S.ex
  obtain ⟨u, h1, h2⟩ := H x v hv
  rw [if_neg hx] at h2
  exact wpAny_Name (wpAny_loadName_local c.kind hl F.ns h1 (hQ u s (krefl s) h2)) hd

/-- a global's value -/
theorem ld_glob {s : Shared} {x : PySem.Str} {pos : Pos} {v : Value} {Q : Value → Shared → Prop} {E : Value → Shared → Prop} (I : c.In s) (hv : c.mg x = some v) (hx : c.env.kindOf x = some .globalImplicit) (hd : (x == ("__debug__" : PySem.Str)) = false) (h : Q v s) :
    wpAny c.M c.A (eval (.Name x pos) c.env) Q E s :=
  Calls.Name_function_global c.kind hx (Calls.loadGlobal_global (by rw [c.glob]; exact c.base.g.keeps I) hv h) hd
theorem ld_blt {s : Shared} {x : PySem.Str} {pos : Pos} {v : Value} {Q : Value → Shared → Prop} {E : Value → Shared → Prop} (I : c.In s) (hm : c.mg x = none) (hv : bootBuiltins x = some v) (hn : x ≠ "__name__") (hx : c.env.kindOf x = some .globalImplicit) (hd : (x == ("__debug__" : PySem.Str)) = false) (h : Q v s) :
    wpAny c.M c.A (eval (.Name x pos) c.env) Q E s :=
  Calls.Name_function_global c.kind hx (Calls.loadGlobal_builtin (by rw [c.glob]; exact c.base.g.keeps I) hm (by rw [c.blt]; exact c.base.b.keeps I) ((c.base.boot x hn).trans hv) h) hd

/-! ## operators -/
def BinOk (c : Fx) (op : Operator) (v1 v2 v : PV) : Prop :=
  ∀ (s : Shared) (ok : Addr → Prop) (u1 u2 : Value), c.In s → (∀ b, s.heap.objs.size ≤ b → ok b) → Rep s.heap ok u1 v1 → Rep s.heap ok u2 v2 → Gv c ok s (binaryOp op u1 u2) v
def IBinOk (c : Fx) (op : Operator) (v1 v2 v : PV) : Prop :=
  ∀ (s : Shared) (ok : Addr → Prop) (u1 u2 : Value), c.In s → (∀ b, s.heap.objs.size ≤ b → ok b) → Rep s.heap ok u1 v1 → Rep s.heap ok u2 v2 → Gv c ok s (inplaceOp op u1 u2) v

theorem St.fresh {a : Addr} {s : Shared} (S : St c m k a s) : ∀ b, s.heap.objs.size ≤ b → okC c k a b := by
  intro b hb
  obtain ⟨mv, F, H, H2⟩ := S.ex
  refine ⟨fun q => ?_, fun hk => ?_⟩
  · exact absurd (Nat.lt_of_le_of_lt (c.banned b q) F.ns.lt) (Nat.not_lt.mpr hb)
  cases k with
  | none => cases hk
  | some x =>
    obtain ⟨_, _, _, _, _, e⟩ := H2 x rfl
    intro z; subst z
    exact absurd (Heap.lt_size e) (Nat.not_lt.mpr hb)

theorem Ev.bin {l r : Expr} {op : Operator} {pos : Pos} {v1 v2 v : PV} (h1 : Ev c m k l v1) (h2 : Ev c m k r v2) (ho : BinOk c op v1 v2 v) : Ev c m k (.BinOp l op r pos) v := by
  intro s a S Q E hQ
  refine wpAny_BinOp (h1 s a S _ E fun u1 s1 K1 r1 => h2 s1 a (S.keeps K1) _ E fun u2 s2 K2 r2 => ?_)
  have S2 := (S.keeps K1).keeps K2
  exact (ho s2 _ u1 u2 S2.in S2.fresh (r1.keeps K2) r2).keep (ktrans K1 K2) hQ

/-! ### ints -/
theorem rep_int {h : Heap} {ok : Addr → Prop} {u : Value} {i : Int} (r : Rep h ok u (.int i)) : ∃ t, u = .int i t := by cases r; exact ⟨_, rfl⟩
theorem rep_bool {h : Heap} {ok : Addr → Prop} {u : Value} {i : Bool} (r : Rep h ok u (.bool i)) : u = .bool i := by cases r; rfl
theorem rep_bytes {h : Heap} {ok : Addr → Prop} {u : Value} {b : List UInt8} (r : Rep h ok u (.bytes b)) : ∃ t, u = .bytes b.toArray t := by cases r; exact ⟨_, rfl⟩
theorem rep_list {h : Heap} {ok : Addr → Prop} {u : Value} {xs : List PV} (r : Rep h ok u (.list xs)) : ∃ a n items, u = .ref a ∧ ok a ∧ IsL h a items.toArray n ∧ RepAll h ok items xs := by
  cases r; exact ⟨_, _, _, rfl, by assumption, by assumption, by assumption⟩
theorem rep_tup {h : Heap} {ok : Addr → Prop} {u : Value} {xs : List PV} (r : Rep h ok u (.tup xs)) : ∃ a n items, u = .ref a ∧ ok a ∧ IsT h a items.toArray n ∧ RepAll h ok items xs := by
  cases r; exact ⟨_, _, _, rfl, by assumption, by assumption, by assumption⟩

theorem Bin.add {x y : Int} : BinOk c .Add (.int x) (.int y) (.int (x + y)) := by
  intro s ok u1 u2 I _ r1 r2 Q E hQ
  obtain ⟨t, rfl⟩ := rep_int r1; obtain ⟨t', rfl⟩ := rep_int r2
  exact wpAny_add_int (hQ _ _ (ktoks s _) (.int _ _))
theorem Bin.sub {x y : Int} : BinOk c .Sub (.int x) (.int y) (.int (x - y)) := by
  intro s ok u1 u2 I _ r1 r2 Q E hQ
  obtain ⟨t, rfl⟩ := rep_int r1; obtain ⟨t', rfl⟩ := rep_int r2
  exact sub_int' (hQ _ _ (ktoks s _) (.int _ _))
theorem Bin.mul {x y : Int} (hm : IntMulOk x y) : BinOk c .Mult (.int x) (.int y) (.int (x * y)) := by
  intro s ok u1 u2 I _ r1 r2 Q E hQ
  obtain ⟨t, rfl⟩ := rep_int r1; obtain ⟨t', rfl⟩ := rep_int r2
  exact PyProof.Rows.mul_int (hQ _ _ (ktoks s _) (.int _ _)) hm
theorem Bin.pow {x : Int} {n : Nat} (hs : (Builtin.Int.intBits x : Int) * n ≤ 2 ^ 27) : BinOk c .Pow (.int x) (.int n) (.int (x ^ n)) := by
  intro s ok u1 u2 I _ r1 r2 Q E hQ
  obtain ⟨t, rfl⟩ := rep_int r1; obtain ⟨t', rfl⟩ := rep_int r2
  exact pow_int (Int.natCast_nonneg n) hs (hQ _ _ (ktoks s _) (by rw [Int.toNat_natCast]; exact .int _ _))
theorem seerAt (s : Shared) (I : c.In s) : SeerAt c.M c.A s.heap := by
  obtain ⟨e, l, h1, h2, h3, h4, h5⟩ := c.frames
  exact SeerAt.of (c.base.seer.keeps I) c.tree h1 h2 h3 h4 h5
theorem room (s : Shared) (I : c.In s) : PylongRoom c.M c.A s :=
  PylongRoom.of (c.base.nolimit.keeps I) (by have := c.depth; have e : Builtin.pylongFrames = 100 := rfl; have e2 : recursionLimit = 1000 := rfl; omega) (seerAt s I)
theorem Bin.floordiv {x y : Int} (hy : 0 < y) : BinOk c .FloorDiv (.int x) (.int y) (.int (x / y)) := by
  intro s ok u1 u2 I _ r1 r2 Q E hQ
  obtain ⟨t, rfl⟩ := rep_int r1; obtain ⟨t', rfl⟩ := rep_int r2
  exact floordiv_int (by omega) (hQ _ _ (ktoks s _) (by rw [Int.fdiv_eq_ediv_of_nonneg _ (by omega)]; exact .int _ _)) (.inr (room s I))
theorem Bin.mod {x y : Int} (hy : 0 < y) : BinOk c .Mod (.int x) (.int y) (.int (x % y)) := by
  intro s ok u1 u2 I _ r1 r2 Q E hQ
  obtain ⟨t, rfl⟩ := rep_int r1; obtain ⟨t', rfl⟩ := rep_int r2
  exact mod_int' (by omega) (hQ _ _ (ktoks s _) (by rw [Int.fmod_eq_emod_of_nonneg _ (by omega)]; exact .int _ _))
theorem Bin.rshift {x : Int} {n : Nat} : BinOk c .RShift (.int x) (.int n) (.int (x / 2 ^ n)) := by
  intro s ok u1 u2 I _ r1 r2 Q E hQ
  obtain ⟨t, rfl⟩ := rep_int r1; obtain ⟨t', rfl⟩ := rep_int r2
  refine rshift_int (by omega) (hQ _ _ (ktoks s _) ?_)
  rw [Int.toNat_natCast, Int.fdiv_eq_ediv_of_nonneg _ (by exact Int.le_of_lt (Int.pow_pos (by decide)))]; exact .int _ _
theorem Bin.and {x y : Int} : BinOk c .BitAnd (.int x) (.int y) (.int (Builtin.bitAnd x y)) := by
  intro s ok u1 u2 I _ r1 r2 Q E hQ
  obtain ⟨t, rfl⟩ := rep_int r1; obtain ⟨t', rfl⟩ := rep_int r2
  exact and_int (hQ _ _ (ktoks s _) (.int _ _))
theorem IBin.add {x y : Int} : IBinOk c .Add (.int x) (.int y) (.int (x + y)) := by
  intro s ok u1 u2 I _ r1 r2 Q E hQ
  obtain ⟨t, rfl⟩ := rep_int r1; obtain ⟨t', rfl⟩ := rep_int r2
  exact wpAny_iadd_int (hQ _ _ (ktoks s _) (.int _ _))
theorem IBin.sub {x y : Int} : IBinOk c .Sub (.int x) (.int y) (.int (x - y)) := by
  intro s ok u1 u2 I _ r1 r2 Q E hQ
  obtain ⟨t, rfl⟩ := rep_int r1; obtain ⟨t', rfl⟩ := rep_int r2
  exact isub_int (hQ _ _ (ktoks s _) (.int _ _))
theorem IBin.mul {x y : Int} (hm : IntMulOk x y) : IBinOk c .Mult (.int x) (.int y) (.int (x * y)) := by
  intro s ok u1 u2 I _ r1 r2 Q E hQ
  obtain ⟨t, rfl⟩ := rep_int r1; obtain ⟨t', rfl⟩ := rep_int r2
  exact PyProof.Rows.imul_int (hQ _ _ (ktoks s _) (.int _ _)) hm

/-! ### bytes -/
theorem Bin.addB {x y : List UInt8} (hs : x.length + y.length ≤ 16777216) : BinOk c .Add (.bytes x) (.bytes y) (.bytes (x ++ y)) := by
  intro s ok u1 u2 I _ r1 r2 Q E hQ
  obtain ⟨t, rfl⟩ := rep_bytes r1; obtain ⟨t', rfl⟩ := rep_bytes r2
  exact KBy.add_bytes (by simpa using hs) fun t' k => hQ _ _ (ktoks s _) (by rw [List.append_toArray]; exact .bytes _ _)
theorem Bin.mulB {b : UInt8} {n : Int} (h0 : 0 ≤ n) (h1 : n ≤ 1048576) : BinOk c .Mult (.bytes [b]) (.int n) (.bytes (List.replicate n.toNat b)) := by
  intro s ok u1 u2 I _ r1 r2 Q E hQ
  obtain ⟨t, rfl⟩ := rep_bytes r1; obtain ⟨t', rfl⟩ := rep_int r2
  refine bytes_mul_any (by simp) (by omega) h1 (by simp) fun t' k => hQ _ _ (ktoks s _) ?_
  have e : (List.replicate n.toNat [b]).flatten = List.replicate n.toNat b := by simp
  rw [e]; exact .bytes _ _

theorem Ev.usub {e : Expr} {pos : Pos} {x : Int} (h : Ev c m k e (.int x)) : Ev c m k (.UnaryOp .USub e pos) (.int (-x)) := by
  intro s a S Q E hQ
  refine UnaryOp_ (h s a S _ E fun u1 s1 K1 r1 => ?_)
  obtain ⟨t, rfl⟩ := rep_int r1
  exact PyProof.Rows.neg_int (hQ _ _ (ktrans K1 (ktoks s1 _)) (.int _ _))
end Mine

set_option maxRecDepth 100000
set_option linter.unusedVariables false
namespace Mine
open PySem PySem.W PyProof.Rows PySem.Calls
variable {c : Fx} {m : Loc} {k : Option PySem.Str}

/-! ## comparisons and tests -/
def CmpOk (c : Fx) (op : CmpOp) (v1 v2 : PV) (b : Bool) : Prop :=
  ∀ (s : Shared) (u1 u2 : Value), c.In s → Rep s.heap Any u1 v1 → Rep s.heap Any u2 v2 → ∀ (Q : Value → Shared → Prop) (E : Value → Shared → Prop), (∀ s', Keeps s s' → Q (.bool b) s') → wpAny c.M c.A (compareOp op u1 u2) Q E s

theorem Ev.cmp {l r : Expr} {op : CmpOp} {pos : Pos} {v1 v2 : PV} {b : Bool} (h1 : EvW c m k l v1) (h2 : EvW c m k r v2) (ho : CmpOk c op v1 v2 b) (hm : behindInMarks op r = false) : Ev c m k (.Compare l [op] [r] pos) (.bool b) := by
  intro s a S Q E hQ
  refine wpAny_Compare1 (h1 s a S _ E fun u1 s1 K1 r1 => h2 s1 a (S.keeps K1) _ E fun u2 s2 K2 r2 => ?_) hm
  exact ho s2 u1 u2 ((S.keeps K1).keeps K2).in (r1.keeps K2).any r2.any _ E fun s' K => hQ _ _ (ktrans (ktrans K1 K2) K) (.bool b)
theorem Tst.cmp {l r : Expr} {op : CmpOp} {pos : Pos} {v1 v2 : PV} {b : Bool} (h1 : EvW c m k l v1) (h2 : EvW c m k r v2) (ho : CmpOk c op v1 v2 b) (hm : behindInMarks op r = false) : Tst c m k (.Compare l [op] [r] pos) b := by
  intro s a S Q E hQ
  refine wpAny_isTrue_Compare1 (h1 s a S _ E fun u1 s1 K1 r1 => h2 s1 a (S.keeps K1) _ E fun u2 s2 K2 r2 => ?_) hm
  exact ho s2 u1 u2 ((S.keeps K1).keeps K2).in (r1.keeps K2).any r2.any _ E fun s' K => wpAny_truthy_bool (hQ _ (ktrans (ktrans K1 K2) K))
theorem Ev.cmp2 {l r r' : Expr} {op op' : CmpOp} {pos : Pos} {v1 v2 v3 : PV} {b b' : Bool} (h1 : Ev c m k l v1) (h2 : Ev c m k r v2) (h3 : Ev c m k r' v3) (ho : CmpOk c op v1 v2 b) (ho' : CmpOk c op' v2 v3 b')
    (hm : lastMarks [op, op'] [r, r'] = false) : Ev c m k (.Compare l [op, op'] [r, r'] pos) (.bool (b && b')) := by
  intro s a S Q E hQ
  refine Compare_chain (h1 s a S _ E fun u1 s1 K1 r1 => chain_link (h2 s1 a (S.keeps K1) _ E fun u2 s2 K2 r2 => ?_)) hm
  have S2 := (S.keeps K1).keeps K2
  refine ho s2 u1 u2 S2.in (r1.any.keeps K2) r2.any _ E fun s' K => wpAny_truthy_bool ?_
  cases b with
  | false => exact hQ _ _ (ktrans (ktrans K1 K2) K) (.bool false)
  | true =>
    refine chain_last (h3 s' a (S2.keeps K) _ E fun u3 s3 K3 r3 => ?_)
    exact ho' s3 u2 u3 ((S2.keeps K).keeps K3).in (r2.any.keeps (ktrans K K3)) r3.any _ E fun s4 K4 => hQ _ _ (ktrans (ktrans (ktrans (ktrans K1 K2) K) K3) K4) (.bool _)

theorem Tst.not {e : Expr} {pos : Pos} {b : Bool} (h : Tst c m k e b) : Tst c m k (.UnaryOp .Not e pos) (!b) :=
  fun s a S Q E hQ => isTrue_not (h s a S _ E fun s' K => hQ s' K)
theorem Tst.and_nil {pos : Pos} : Tst c m k (.BoolOp .And [] pos) true := fun s a S Q E hQ => isTrue_and_nil (hQ s (krefl s))
theorem Tst.or_nil {pos : Pos} : Tst c m k (.BoolOp .Or [] pos) false := fun s a S Q E hQ => isTrue_or_nil (hQ s (krefl s))
theorem Tst.and_cons {x : Expr} {rest : List Expr} {pos : Pos} {b b' : Bool} (h1 : Tst c m k x b) (h2 : b = true → Tst c m k (.BoolOp .And rest pos) b') : Tst c m k (.BoolOp .And (x :: rest) pos) (b && b') := by
  intro s a S Q E hQ
  refine isTrue_and (h1 s a S _ E fun s1 K1 => ?_)
  cases b with
  | false => exact hQ s1 K1
  | true => exact h2 rfl s1 a (S.keeps K1) Q E fun s2 K2 => hQ s2 (ktrans K1 K2)
theorem Tst.or_cons {x : Expr} {rest : List Expr} {pos : Pos} {b b' : Bool} (h1 : Tst c m k x b) (h2 : b = false → Tst c m k (.BoolOp .Or rest pos) b') : Tst c m k (.BoolOp .Or (x :: rest) pos) (b || b') := by
  intro s a S Q E hQ
  refine isTrue_or (h1 s a S _ E fun s1 K1 => ?_)
  cases b with
  | true => exact hQ s1 K1
  | false => exact h2 rfl s1 a (S.keeps K1) Q E fun s2 K2 => hQ s2 (ktrans K1 K2)
/-- a test that is a plain expression whose value is a bool -/
theorem Tst.plain {e : Expr} {b : Bool} (h : Ev c m k e (.bool b)) (he : isTrue e c.env (eval e c.env) = (do let v ← eval e c.env; standAt e.pos; holding [v] (truthy v))) : Tst c m k e b := by
  intro s a S Q E hQ
  refine isTrue_plain (h s a S _ E fun u s1 K1 r1 => ?_) he
  rw [rep_bool r1]
  exact wpAny_truthy_bool (hQ _ K1)
theorem Tst.cast {e : Expr} {b b' : Bool} (h : Tst c m k e b) (e' : b = b') : Tst c m k e b' := e' ▸ h
theorem Ev.cast {e : Expr} {v v' : PV} (h : Ev c m k e v) (e' : v = v') : Ev c m k e v' := e' ▸ h

theorem Ev.and2 {x y : Expr} {pos : Pos} {b b' : Bool} (h1 : Ev c m k x (.bool b)) (h2 : b = true → Ev c m k y (.bool b')) : Ev c m k (.BoolOp .And [x, y] pos) (.bool (b && b')) := by
  intro s a S Q E hQ
  refine BoolOp_and (h1 s a S _ E fun u s1 K1 r1 => ?_)
  rw [rep_bool r1]
  refine wpAny_truthy_bool ?_
  cases b with
  | false => exact hQ _ _ K1 (.bool _)
  | true => exact BoolOp_one (h2 rfl s1 a (S.keeps K1) Q E fun u s2 K2 r2 => hQ u s2 (ktrans K1 K2) r2)
theorem Ev.or2 {x y : Expr} {pos : Pos} {b b' : Bool} (h1 : Ev c m k x (.bool b)) (h2 : b = false → Ev c m k y (.bool b')) : Ev c m k (.BoolOp .Or [x, y] pos) (.bool (b || b')) := by
  intro s a S Q E hQ
  refine BoolOp_or (h1 s a S _ E fun u s1 K1 r1 => ?_)
  rw [rep_bool r1]
  refine wpAny_truthy_bool ?_
  cases b with
  | true => exact hQ _ _ K1 (.bool _)
  | false => exact BoolOp_one (h2 rfl s1 a (S.keeps K1) Q E fun u s2 K2 r2 => hQ u s2 (ktrans K1 K2) r2)
theorem Ev.not {x : Expr} {pos : Pos} {b : Bool} (h1 : Ev c m k x (.bool b)) : Ev c m k (.UnaryOp .Not x pos) (.bool (!b)) := by
  intro s a S Q E hQ
  refine UnaryOp_ (h1 s a S _ E fun u s1 K1 r1 => ?_)
  rw [rep_bool r1]
  exact not_of (wpAny_truthy_bool (hQ _ _ K1 (.bool _)))
theorem Ev.ifexp {t x y : Expr} {pos : Pos} {b : Bool} {v : PV} (ht : Tst c m k t b) (h : if b = true then Ev c m k x v else Ev c m k y v) : Ev c m k (.IfExp t x y pos) v := by
  intro s a S Q E hQ
  refine IfExp_ (ht s a S _ E fun s1 K1 => ?_)
  cases b with
  | true => exact Gv.keep K1 ((show Ev c m k x v from h) s1 a (S.keeps K1)) hQ
  | false => exact Gv.keep K1 ((show Ev c m k y v from h) s1 a (S.keeps K1)) hQ

theorem Cmp.eq {x y : Int} : CmpOk c .Eq (.int x) (.int y) (x == y) := by
  intro s u1 u2 I r1 r2 Q E hQ; obtain ⟨t, rfl⟩ := rep_int r1; obtain ⟨t', rfl⟩ := rep_int r2
  exact PyProof.Rows.eq_int (hQ s (krefl s))
theorem Cmp.ne {x y : Int} : CmpOk c .NotEq (.int x) (.int y) (x != y) := by
  intro s u1 u2 I r1 r2 Q E hQ; obtain ⟨t, rfl⟩ := rep_int r1; obtain ⟨t', rfl⟩ := rep_int r2
  exact PyProof.Rows.ne_int (hQ s (krefl s))
theorem Cmp.lt {x y : Int} : CmpOk c .Lt (.int x) (.int y) (decide (x < y)) := by
  intro s u1 u2 I r1 r2 Q E hQ; obtain ⟨t, rfl⟩ := rep_int r1; obtain ⟨t', rfl⟩ := rep_int r2
  exact PyProof.Rows.lt_int (hQ s (krefl s))
theorem Cmp.le {x y : Int} : CmpOk c .LtE (.int x) (.int y) (decide (x ≤ y)) := by
  intro s u1 u2 I r1 r2 Q E hQ; obtain ⟨t, rfl⟩ := rep_int r1; obtain ⟨t', rfl⟩ := rep_int r2
  exact PyProof.Rows.le_int (hQ s (krefl s))
theorem Cmp.gt {x y : Int} : CmpOk c .Gt (.int x) (.int y) (decide (y < x)) := by
  intro s u1 u2 I r1 r2 Q E hQ; obtain ⟨t, rfl⟩ := rep_int r1; obtain ⟨t', rfl⟩ := rep_int r2
  exact PyProof.Rows.gt_int (hQ s (krefl s))
theorem Cmp.eqBool {x y : Bool} : CmpOk c .Eq (.bool x) (.bool y) (x == y) := by
  intro s u1 u2 I r1 r2 Q E hQ; rw [rep_bool r1, rep_bool r2]
  exact PyProof.Rows.eq_bool (hQ s (krefl s))
theorem Cmp.neBool {x y : Bool} : CmpOk c .NotEq (.bool x) (.bool y) (x != y) := by
  intro s u1 u2 I r1 r2 Q E hQ; rw [rep_bool r1, rep_bool r2]
  exact PyProof.Rows.ne_bool (hQ s (krefl s))
theorem Cmp.eqBytes {x y : List UInt8} : CmpOk c .Eq (.bytes x) (.bytes y) (x == y) := by
  intro s u1 u2 I r1 r2 Q E hQ; obtain ⟨t, rfl⟩ := rep_bytes r1; obtain ⟨t', rfl⟩ := rep_bytes r2
  exact eq_bytes (hQ s (krefl s))
theorem Cmp.neBytes {x y : List UInt8} : CmpOk c .NotEq (.bytes x) (.bytes y) (x != y) := by
  intro s u1 u2 I r1 r2 Q E hQ; obtain ⟨t, rfl⟩ := rep_bytes r1; obtain ⟨t', rfl⟩ := rep_bytes r2
  exact ne_bytes (hQ s (krefl s))

/-! ## arguments and displays -/
def EvL (c : Fx) (m : Loc) (k : Option PySem.Str) (es : List Expr) (vs : List PV) : Prop :=
  ∀ (pos : Pos) (s : Shared) (a : Addr), St c m k a s → ∀ (Q : List Value → Shared → Prop) (E : Value → Shared → Prop),
    (∀ us s', Keeps s s' → RepAll s'.heap (okC c k a) us vs → Q us s') → wpAny c.M c.A (spliced (backTo pos (starEach es c.env))) Q E s
theorem EvL.nil : EvL c m k [] [] := fun pos s a S Q E hQ => args_nil (hQ [] s (krefl s) .nil)
theorem EvL.cons {e : Expr} {es : List Expr} {v : PV} {vs : List PV} (h1 : Ev c m k e v) (h2 : EvL c m k es vs) (he : starEach (e :: es) c.env = (false, eval e c.env) :: starEach es c.env) : EvL c m k (e :: es) (v :: vs) := by
  intro pos s a S Q E hQ
  refine args_cons (h1 s a S _ E fun u s1 K1 r1 => h2 pos s1 a (S.keeps K1) _ E fun us s2 K2 r2 => ?_) he
  exact hQ _ _ (ktrans K1 K2) (.cons (r1.keeps K2) r2)
theorem size_line : sizeLine = 16777216 := rfl
theorem Ev.list {es : List Expr} {pos : Pos} {vs : List PV} (h : EvL c m k es vs) (hs : vs.length ≤ 16777216) : Ev c m k (.List es pos) (.list vs) := by
  intro s a S Q E hQ
  refine List_ (h pos s a S _ E fun us s1 K1 r1 => ?_)
  refine wpAny_newObj_type (hQ _ _ (ktrans K1 (kpush s1 _)) ?_) (by show us.toArray.size ≤ sizeLine; rw [size_line, List.size_toArray, r1.length]; exact hs)
  exact .list ((S.keeps K1).fresh _ (Nat.le_refl _)) (Heap.get?_push_size _ rfl) (r1.keeps (kpush s1 _))
theorem Ev.tuple {es : List Expr} {n : Nat} {pos : Pos} {vs : List PV} (h : EvL c m k es vs) (hs : vs.length ≤ 16777216) : Ev c m k (.Tuple es n pos) (.tup vs) := by
  intro s a S Q E hQ
  refine Tuple_ (h pos s a S _ E fun us s1 K1 r1 => ?_)
  refine wpAny_newObj_type (hQ _ _ (ktrans K1 (kpush s1 _)) ?_) (by show us.toArray.size ≤ sizeLine; rw [size_line, List.size_toArray, r1.length]; exact hs)
  exact .tup ((S.keeps K1).fresh _ (Nat.le_refl _)) (Heap.get?_push_size _ rfl) (r1.keeps (kpush s1 _))
end Mine

set_option maxRecDepth 100000
set_option linter.unusedVariables false
namespace Mine
open PySem PySem.W PyProof.Rows PySem.Calls
variable {c : Fx} {m : Loc} {k : Option PySem.Str}

/-! ## lists -/
abbrev IL (l : List Int) : PV := .list (l.map PV.int)
theorem reps_ints {h : Heap} {ok : Addr → Prop} : ∀ {l : List Int} {vs : List Value}, RepAll h ok vs (l.map PV.int) → IntsAre vs l
  | [], _, .nil => .nil
  | i :: l, _, .cons r t => by obtain ⟨u, rfl⟩ := rep_int r; exact .cons _ _ (reps_ints t)
theorem rep_isL {h : Heap} {a : Addr} {its : Array Value} {n : Nat} (x : IsL h a its n) : h.IsList a its := x.isList
theorem rep_isT {h : Heap} {a : Addr} {its : Array Value} {n : Nat} (x : IsT h a its n) : h.IsTuple a its := ⟨_, x, rfl, n, rfl⟩

theorem Bin.addL {xs ys : List PV} (hs : xs.length + ys.length ≤ 16777216) : BinOk c .Add (.list xs) (.list ys) (.list (xs ++ ys)) := by
  intro s ok u1 u2 I hfr r1 r2 Q E hQ
  obtain ⟨a, n, its, rfl, ha, hl, hr⟩ := rep_list r1
  obtain ⟨b, n2, its2, rfl, hb, hl2, hr2⟩ := rep_list r2
  refine P.add_list hl hl2 (hQ _ _ (kpush s _) ?_) (by rw [size_line]; simpa [hr.length, hr2.length] using hs)
  refine .list (n := 0) (hfr _ (Nat.le_refl _)) (items := its ++ its2) ?_ ((hr.append hr2).keeps (kpush s _))
  rw [← List.append_toArray]
  exact Heap.get?_push_size _ rfl

theorem RepAll.replicate {h : Heap} {ok : Addr → Prop} {v : Value} {x : PV} (r : Rep h ok v x) : ∀ n : Nat, RepAll h ok (List.replicate n v) (List.replicate n x)
  | 0 => .nil
  | n + 1 => .cons r (RepAll.replicate r n)
theorem foldl_one (v : Value) : ∀ (n : Nat) (acc : List Value), (List.replicate n #[v]).foldl (fun x1 x2 => x1 ++ x2) acc.toArray = (acc ++ List.replicate n v).toArray
  | 0, acc => by simp
  | n + 1, acc => by
    rw [List.replicate_succ, List.foldl_cons]
    have e : acc.toArray ++ #[v] = (acc ++ [v]).toArray := by simp
    rw [e, foldl_one v n, List.append_assoc]; rfl
/-- [x] * n -/
theorem Bin.mulL {x : PV} {n : Int} (h0 : 0 ≤ n) (h1 : n ≤ 16777216) : BinOk c .Mult (.list [x]) (.int n) (.list (List.replicate n.toNat x)) := by
  intro s ok u1 u2 I hfr r1 r2 Q E hQ
  obtain ⟨a, q, its, rfl, ha, hl, hr⟩ := rep_list r1
  obtain ⟨t', rfl⟩ := rep_int r2
  cases hr with
  | cons rx rn =>
  cases rn
  rename_i v
  refine wpAny_binaryOp_repeat_ref (T := "list") (U := "int") (by decide) ⟨_, hl, rfl⟩ (fun s' => typeIs_int s' n t') noFill_list_mul PySem.F.fills_int_mul PySem.F.slot_int_rmul repeat_list PySem.F.slot_int_index.lookup
    (call_meets PySem.F.slot_int_rmul (typeIs_int s n t') PySem.F.entry_int_rmul (PySem.F.args_int_rmul_2 _ _) (int___rmul___int_list n t' a _ q)
      ⟨hl, rfl, ⟨_, hl, rfl⟩, call_meets PySem.F.slot_list_mul ⟨_, hl, rfl⟩ PySem.F.entry_list_mul (PySem.F.args_list_mul_2 _ _)
        (AutoListH.list___mul___list_int_3 a _ q n t' (by simp [Builtin.List.listFitsIndex]; omega) (by simp; omega) (by simp [Builtin.List.listTooLong, sizeLine]; omega))
        ⟨hl, hQ _ _ (kpush s _) ?_⟩⟩)
  refine .list (n := 0) (hfr _ (Nat.le_refl _)) (items := List.replicate n.toNat v) ?_ ((RepAll.replicate rx _).keeps (kpush s _))
  have e := foldl_one v n.toNat []
  rw [List.nil_append] at e
  show (s.heap.push { cls := Value.type "list", data := Data.seq (List.foldl (fun x1 x2 => x1 ++ x2) #[] (List.replicate n.toNat #[v])) }).get? s.heap.objs.size = _
  rw [e]
  exact Heap.get?_push_size _ rfl

/-! ## items -/
theorem rep_flat_int {h : Heap} {ok ok' : Addr → Prop} {u : Value} {i : Int} (r : Rep h ok' u (.int i)) : Rep h ok u (.int i) := by cases r; exact .int _ _

/-- what an item of a list is, at a place from the front or from behind -/
def at? (xs : List PV) (i : Int) : Option PV := if 0 ≤ i then xs[i.toNat]? else if -(xs.length : Int) ≤ i then xs[(i + xs.length).toNat]? else none

theorem getItem_list {s : Shared} {ok : Addr → Prop} {a : Addr} {n : Nat} {its : List Value} {xs : List PV} {i : Int} {t : Tok} {x : PV} (hl : IsL s.heap a its.toArray n) (hr : RepAll s.heap ok its xs) (hx : at? xs i = some x) (hlen : xs.length ≤ 16777216) :
    Gv c ok s (getItem (.ref a) (.int i t)) x := by
  intro Q E hQ
  unfold at? at hx
  split at hx
  · rename_i h0
    obtain ⟨v, hv, rv⟩ := hr.get hx
    have hlt : i.toNat < xs.length := by rw [← hr.length]; exact (List.getElem?_eq_some_iff.mp hv).1
    exact wpAny_getItem_list hl.isList h0 (by omega) (by simpa using hv) (hQ v s (krefl s) rv)
  · rename_i h0
    split at hx
    · rename_i h1
      obtain ⟨v, hv, rv⟩ := hr.get hx
      have e := hr.length
      refine wpAny_getItem_list_neg hl.isList (by omega) (by rw [List.size_toArray, e]; exact h1) (by omega) ?_ (hQ v s (krefl s) rv)
      rw [List.size_toArray, e]; simpa using hv
    · cases hx

theorem Ev.item {e i : Expr} {pos : Pos} {xs : List PV} {j : Int} {x : PV} (h1 : Ev c m k e (.list xs)) (h2 : Ev c m k i (.int j)) (hx : at? xs j = some x) (hlen : xs.length ≤ 16777216)
    (hs : ∀ o v, subscripted i false o v = operate [o, v] (getItem o v)) : Ev c m k (.Subscript e i pos) x := by
  intro s a S Q E hQ
  refine Subscript_ (h1 s a S _ E fun u1 s1 K1 r1 => h2 s1 a (S.keeps K1) _ E fun u2 s2 K2 r2 => ?_)
  obtain ⟨l, n, its, rfl, ha, hl, hr⟩ := rep_list (r1.keeps K2)
  obtain ⟨t, rfl⟩ := rep_int r2
  exact tail_any hl.isList.typeIs slot_list_getitem.lookup (Gv.keep (ktrans K1 K2) (getItem_list hl hr hx hlen) hQ) (hs _ _)
theorem Ev.itemW {e i : Expr} {pos : Pos} {xs : List PV} {j x : Int} (h1 : EvW c m k e (.list xs)) (h2 : Ev c m k i (.int j)) (hx : at? xs j = some (.int x)) (hlen : xs.length ≤ 16777216)
    (hs : ∀ o v, subscripted i false o v = operate [o, v] (getItem o v)) : Ev c m k (.Subscript e i pos) (.int x) := by
  intro s a S Q E hQ
  refine Subscript_ (h1 s a S _ E fun u1 s1 K1 r1 => h2 s1 a (S.keeps K1) _ E fun u2 s2 K2 r2 => ?_)
  obtain ⟨l, n, its, rfl, ha, hl, hr⟩ := rep_list (r1.keeps K2)
  obtain ⟨t, rfl⟩ := rep_int r2
  exact tail_any hl.isList.typeIs slot_list_getitem.lookup (Gv.keep (ktrans K1 K2) (getItem_list hl hr hx hlen) fun u s'' K r => hQ u s'' K (rep_flat_int r)) (hs _ _)
theorem at_ints {l : List Int} {i : Int} (h0 : 0 ≤ i) (h1 : i < l.length) : at? (l.map PV.int) i = some (.int (l.getD i.toNat 0)) := by
  have : i.toNat < l.length := by omega
  simp [at?, h0, this]
theorem at_neg {l : List Int} {i : Int} (h0 : i < 0) (h1 : -(l.length : Int) ≤ i) : at? (l.map PV.int) i = some (.int (l.getD (l.length - i.natAbs) 0)) := by
  have h3 : (i + (l.length : Int)).toNat = l.length - i.natAbs := by omega
  have : l.length - i.natAbs < l.length := by omega
  have h4 : ¬ 0 ≤ i := by omega
  simp [at?, h4, h1, h3, this]

/-- a tuple's item at a written place -/
theorem Ev.itemT {e i : Expr} {pos : Pos} {xs : List PV} {j : Nat} {x : PV} (h1 : Ev c m k e (.tup xs)) (h2 : Ev c m k i (.int j)) (hx : xs[j]? = some x) (hlen : xs.length ≤ 16777216)
    (hs : ∀ o v, subscripted i false o v = operate [o, v] (getItem o v)) : Ev c m k (.Subscript e i pos) x := by
  intro s a S Q E hQ
  refine Subscript_ (h1 s a S _ E fun u1 s1 K1 r1 => h2 s1 a (S.keeps K1) _ E fun u2 s2 K2 r2 => ?_)
  obtain ⟨l, n, its, rfl, ha, hl, hr⟩ := rep_tup (r1.keeps K2)
  obtain ⟨t, rfl⟩ := rep_int r2
  obtain ⟨v, hv, rv⟩ := hr.get hx
  have hlt : j < its.length := (List.getElem?_eq_some_iff.mp hv).1
  have e1 := hr.length
  have hsq : seqIndex? (j : Int) its.toArray.size = some j := by
    have h3 : ¬ ((j : Int) < 0) := by omega
    simp [seqIndex?, h3, hlt]
  refine tail_any (rep_isT hl).typeIs PyProof.Rows.slot_tuple_getitem.lookup (PyProof.Rows.getItem_tuple ⟨_, hl, rfl, n, rfl⟩ (by omega) (by omega) hsq (by simpa using hv) (hQ v _ (ktrans K1 K2) rv)) (hs _ _)

/-- an octet of bytes -/
theorem Ev.itemB {e i : Expr} {pos : Pos} {b : List UInt8} {j : Int} (h1 : Ev c m k e (.bytes b)) (h2 : Ev c m k i (.int j)) (h0 : -(b.length : Int) ≤ j) (hj : j < b.length) (hlen : b.length ≤ 16777216)
    (hs : ∀ o v, subscripted i false o v = operate [o, v] (getItem o v)) : Ev c m k (.Subscript e i pos) (.int ((b.getD (if 0 ≤ j then j.toNat else b.length - j.natAbs) 0).toNat : Nat)) := by
  intro s a S Q E hQ
  refine Subscript_ (h1 s a S _ E fun u1 s1 K1 r1 => h2 s1 a (S.keeps K1) _ E fun u2 s2 K2 r2 => ?_)
  obtain ⟨t, rfl⟩ := rep_bytes r1
  obtain ⟨t', rfl⟩ := rep_int r2
  have g : wpAny c.M c.A (getItem (.bytes b.toArray t) (.int j t')) Q E s2 := by
    refine getItem_gives (PySem.W.typeIs_bytes s2 _ t) (by decide) FB.slot_bytes_getitem FB.entry_bytes_getitem (FB.args_bytes_getitem_2 _ _) (gives_bytes_getitem _ j t t' (b.getD (if 0 ≤ j then j.toNat else b.length - j.natAbs) 0) ?_ ?_) ?_
    · simp only [Builtin.Bytes.fitsIndex, Bool.and_eq_true, decide_eq_true_eq]; omega
    · have hl : (if 0 ≤ j then j.toNat else b.length - j.natAbs) < b.length := by split <;> omega
      have e : seqIndex? j b.toArray.size = some (if 0 ≤ j then j.toNat else b.length - j.natAbs) := by
        simp only [seqIndex?, List.size_toArray]
        by_cases hn : j < 0
        · have h3 : ¬ 0 ≤ j := by omega
          have h4 : 0 ≤ j + (b.length : Int) := by omega
          have h5 : j + (b.length : Int) < b.length := by omega
          have h6 : (j + (b.length : Int)).toNat = b.length - j.natAbs := by omega
          simp [hn, h3, h4, h5, h6]
        · have h3 : 0 ≤ j := by omega
          simp [hn, h3, hj]
      rw [e]; simp [hl]
    · exact hQ _ _ (ktrans (ktrans K1 K2) (ktoks s2 _)) (.int _ _)
  exact tail_any (PySem.W.typeIs_bytes _ _ _) FB.slot_bytes_getitem.lookup g (hs _ _)
end Mine

set_option maxRecDepth 100000
set_option linter.unusedVariables false
namespace Mine
open PySem PySem.W PyProof.Rows PySem.Calls
variable {c : Fx} {m : Loc} {k : Option PySem.Str}

/-! ## slices -/
inductive EvP (c : Fx) (m : Loc) (k : Option PySem.Str) : Option Expr → Option Int → Prop
  | none : EvP c m k none none
  | some {e : Expr} {i : Int} (h : Ev c m k e (.int i)) : EvP c m k (some e) (some i)
theorem EvP.run {e : Option Expr} {o : Option Int} (h : EvP c m k e o) {s : Shared} {a : Addr} (S : St c m k a s) {Q : Value → Shared → Prop} {E : Value → Shared → Prop}
    (hQ : ∀ u s', Keeps s s' → IsPart u o → Q u s') : wpAny c.M c.A (valueOrNone (evalOpt e c.env)) Q E s := by
  cases h with
  | none => exact wpAny_pure (hQ _ _ (krefl s) .none)
  | some h =>
    refine h s a S _ E fun u s' K r => ?_
    obtain ⟨t, rfl⟩ := rep_int r
    exact hQ _ _ K (.int _ _)
def pick {α : Type} (xs : List α) (lo hi st : Option Int) : List α :=
  (sliceRange (sliceBounds lo hi st xs.length).1 (sliceBounds lo hi st xs.length).2.1 (sliceBounds lo hi st xs.length).2.2).filterMap (xs[·]?)
theorem RepAll.places {h : Heap} {ok : Addr → Prop} {vs : List Value} {xs : List PV} (r : RepAll h ok vs xs) : ∀ js : List Nat, RepAll h ok (js.filterMap (vs[·]?)) (js.filterMap (xs[·]?))
  | [] => .nil
  | j :: js => by
    have ih := RepAll.places r js
    cases hn : xs[j]? with
    | some n =>
      obtain ⟨v, hv, rv⟩ := r.get hn
      simp only [List.filterMap_cons, hn, hv]
      exact .cons rv ih
    | none =>
      have hv : vs[j]? = none := by
        rw [List.getElem?_eq_none_iff] at hn ⊢
        rw [r.length]; exact hn
      simp only [List.filterMap_cons, hn, hv]
      exact ih
theorem RepAll.pick {h : Heap} {ok : Addr → Prop} {vs : List Value} {xs : List PV} (r : RepAll h ok vs xs) (lo hi st : Option Int) : RepAll h ok (slicePick vs.toArray lo hi st).toList (pick xs lo hi st) := by
  have e : (slicePick vs.toArray lo hi st).toList = (sliceRange (sliceBounds lo hi st xs.length).1 (sliceBounds lo hi st xs.length).2.1 (sliceBounds lo hi st xs.length).2.2).filterMap (vs[·]?) := by
    simp [slicePick, r.length]
  rw [e]
  exact r.places _
theorem sub_slice (l u st : Option Expr) (p : Pos) (o v : Value) : ∃ ops, subscripted (.Slice l u st p) false o v = operate ops (getItem o v) := by cases st <;> exact ⟨_, rfl⟩

theorem eval_slice {l u st : Option Expr} {p : Pos} {lo hi sp : Option Int} (h1 : EvP c m k l lo) (h2 : EvP c m k u hi) (h3 : EvP c m k st sp) {s : Shared} {a : Addr} (S : St c m k a s) {Q : Value → Shared → Prop} {E : Value → Shared → Prop}
    (hQ : ∀ sl vl vu vs s', Keeps s s' → s'.heap.IsSliceOf sl vl vu vs → IsPart vl lo → IsPart vu hi → IsPart vs sp → Q (.ref sl) s') : wpAny c.M c.A (eval (.Slice l u st p) c.env) Q E s := by
  show wpAny c.M c.A (do
    let l ← valueOrNone (evalOpt l c.env)
    let u ← holding [l] (valueOrNone (evalOpt u c.env))
    let s ← holding [l, u] (valueOrNone (evalOpt st c.env))
    newFields "slice" [l, u, s]) Q E s
  refine wpAny_bind (h1.run S fun vl s1 K1 p1 => wpAny_bind (wpAny_holding (h2.run (S.keeps K1) fun vu s2 K2 p2 => wpAny_bind (wpAny_holding (h3.run ((S.keeps K1).keeps K2) fun vs s3 K3 p3 => ?_)))))
  exact wpAny_newObj_type (hQ _ vl vu vs _ (ktrans (ktrans K1 K2) (ktrans K3 (kpush s3 _))) (Heap.IsSliceOf.new ..) p1 p2 p3)

theorem Ev.slice {e : Expr} {l u st : Option Expr} {p pos : Pos} {lo hi sp : Option Int} {xs : List PV} (h0 : Ev c m k e (.list xs)) (h1 : EvP c m k l lo) (h2 : EvP c m k u hi) (h3 : EvP c m k st sp) (hz : sp ≠ some 0) (hlen : xs.length ≤ 16777216) :
    Ev c m k (.Subscript e (.Slice l u st p) pos) (.list (pick xs lo hi sp)) := by
  intro s a S Q E hQ
  refine Subscript_ (h0 s a S _ E fun u1 s1 K1 r1 => eval_slice h1 h2 h3 (S.keeps K1) fun sl vl vu vs s2 K2 hsl p1 p2 p3 => ?_)
  obtain ⟨la, n, its, rfl, ha, hl, hr⟩ := rep_list (r1.keeps K2)
  obtain ⟨ops, hops⟩ := sub_slice l u st p (.ref la) (.ref sl)
  refine tail_any hl.isList.typeIs slot_list_getitem.lookup (wpAny_getItem_list_slice hl.isList hsl p1 p2 p3 hz (hQ _ _ (ktrans (ktrans K1 K2) (kpush s2 _)) ?_) (by rw [size_line, List.size_toArray, hr.length]; exact hlen)) hops
  refine .list (n := 0) (((S.keeps K1).keeps K2).fresh _ (Nat.le_refl _)) (items := (slicePick its.toArray lo hi sp).toList) ?_ ((hr.pick lo hi sp).keeps (kpush s2 _))
  rw [Array.toArray_toList]
  exact Heap.get?_push_size _ rfl

def clipTo (n : Nat) (i : Int) : Nat := clipAt n i
theorem Ev.sliceB {e : Expr} {l u : Option Expr} {p pos : Pos} {lo hi : Option Int} {b : List UInt8} (h0 : Ev c m k e (.bytes b)) (h1 : EvP c m k l lo) (h2 : EvP c m k u hi) (hlen : b.length ≤ 16777216) :
    Ev c m k (.Subscript e (.Slice l u none p) pos) (.bytes ((b.drop (lo.elim 0 (clipAt b.length))).take (hi.elim b.length (clipAt b.length) - lo.elim 0 (clipAt b.length)))) := by
  intro s a S Q E hQ
  refine Subscript_ (h0 s a S _ E fun u1 s1 K1 r1 => eval_slice h1 h2 (st := none) (sp := none) .none (S.keeps K1) fun sl vl vu vs s2 K2 hsl p1 p2 p3 => ?_)
  obtain ⟨t, rfl⟩ := rep_bytes r1
  obtain ⟨ops, hops⟩ := sub_slice l u none p (.bytes b.toArray t) (.ref sl)
  cases p3
  have hz : (KBy.picked b.toArray lo hi).size ≤ sizeLine := Nat.le_trans (KBc.size_picked_le _ lo hi) (by rw [size_line]; simpa using hlen)
  refine tail_any (PySem.W.typeIs_bytes _ _ _) FB.slot_bytes_getitem.lookup (getItem_meets (PySem.W.typeIs_bytes _ _ _) (by decide) FB.slot_bytes_getitem FB.entry_bytes_getitem (FB.args_bytes_getitem_2 _ _) (KBc.meets_slice2 b.toArray t _ p1 p2)
    ⟨hsl, hz, fun t' k' => hQ _ _ (ktrans (ktrans K1 K2) (ktoks s2 _)) ?_⟩) hops
  rw [KBc.picked_eq]
  simp only [List.size_toArray]
  exact .bytes _ _
end Mine

set_option maxRecDepth 100000
set_option linter.unusedVariables false
namespace Mine
open PySem PySem.W PyProof.Rows PySem.Calls
variable {c : Fx} {m : Loc} {k : Option PySem.Str}

/-! ## calls of built-ins -/
theorem names_ok : (["len", "range", "bytes", "type", "int", "sum", "abs", "divmod", "max"] : List PySem.Str).all (fun x => x != "__name__" && (x == ("__debug__" : PySem.Str)) == false) = true := by decide +kernel
theorem ld_free {s : Shared} {x : PySem.Str} {pos : Pos} {v : Value} {Q : Value → Shared → Prop} {E : Value → Shared → Prop} (I : c.In s) (hx : x ∈ (["len", "range", "bytes", "type", "int", "sum", "abs", "divmod", "max"] : List PySem.Str)) (hv : bootBuiltins x = some v) (hk : c.env.kindOf x = some .globalImplicit) (h : Q v s) :
    wpAny c.M c.A (eval (.Name x pos) c.env) Q E s := by
  have q := List.all_eq_true.mp names_ok x hx
  simp only [Bool.and_eq_true, bne_iff_ne, ne_eq, beq_iff_eq] at q
  exact ld_blt I (c.base.free x hx) hv q.1 hk q.2 h

theorem boot_len : bootBuiltins "len" = some (.builtin "len") := by decide +kernel
theorem boot_bytes : bootBuiltins "bytes" = some (.type "bytes") := by decide +kernel
theorem boot_int : bootBuiltins "int" = some (.type "int") := by decide +kernel
theorem boot_type : bootBuiltins "type" = some (.type "type") := by decide +kernel
theorem boot_range : bootBuiltins "range" = some (.type "range") := by decide +kernel
theorem boot_sum : bootBuiltins "sum" = some (.builtin "sum") := by decide +kernel
theorem boot_abs : bootBuiltins "abs" = some (.builtin "abs") := by decide +kernel
theorem boot_divmod : bootBuiltins "divmod" = some (.builtin "divmod") := by decide +kernel
theorem boot_max : bootBuiltins "max" = some (.builtin "max") := by decide +kernel

/-- f(e), f a built-in function, or a built-in type -/
theorem call1 {x : PySem.Str} {id : String} {np pos : Pos} {e : Expr} {v1 : PV} {s : Shared} {a : Addr} (S : St c m k a s) (hx : x ∈ (["len", "range", "bytes", "type", "int", "sum", "abs", "divmod", "max"] : List PySem.Str)) (hv : bootBuiltins x = some (.builtin id))
    (hk : c.env.kindOf x = some .globalImplicit) (h1 : EvW c m k e v1) (he : starEach [e] c.env = [(false, eval e c.env)]) {Q : Value → Shared → Prop} {E : Value → Shared → Prop}
    (H : ∀ u s', Keeps s s' → Rep s'.heap c.any u v1 → wpAny c.M c.A (call (.builtin id) [u]) Q E s') : wpAny c.M c.A (eval (.Call (.Name x np) [e] [] pos) c.env) Q E s := by
  refine Call_ (ld_free S.in hx hv hk (callWith_builtin1 ?_ (by exact he) (by rfl)))
  exact args_cons (h1 s a S _ E fun u s1 K1 r1 => args_nil (H u s1 K1 r1)) (by exact he)
theorem call1T {x : PySem.Str} {id : String} {np pos : Pos} {e : Expr} {v1 : PV} {s : Shared} {a : Addr} (S : St c m k a s) (hx : x ∈ (["len", "range", "bytes", "type", "int", "sum", "abs", "divmod", "max"] : List PySem.Str)) (hv : bootBuiltins x = some (.type id))
    (hk : c.env.kindOf x = some .globalImplicit) (h1 : EvW c m k e v1) (he : starEach [e] c.env = [(false, eval e c.env)]) {Q : Value → Shared → Prop} {E : Value → Shared → Prop}
    (H : ∀ u s', Keeps s s' → Rep s'.heap c.any u v1 → wpAny c.M c.A (call (.type id) [u]) Q E s') : wpAny c.M c.A (eval (.Call (.Name x np) [e] [] pos) c.env) Q E s := by
  refine Call_ (ld_free S.in hx hv hk (callWith_type1 ?_ (by exact he) (by rfl)))
  exact args_cons (h1 s a S _ E fun u s1 K1 r1 => args_nil (H u s1 K1 r1)) (by exact he)
theorem call2 {x : PySem.Str} {id : String} {np pos : Pos} {e e' : Expr} {v1 v2 : PV} {s : Shared} {a : Addr} (S : St c m k a s) (hx : x ∈ (["len", "range", "bytes", "type", "int", "sum", "abs", "divmod", "max"] : List PySem.Str)) (hv : bootBuiltins x = some (.builtin id))
    (hk : c.env.kindOf x = some .globalImplicit) (h1 : Ev c m k e v1) (h2 : Ev c m k e' v2) (he : starEach [e, e'] c.env = [(false, eval e c.env), (false, eval e' c.env)]) (he' : starEach [e'] c.env = [(false, eval e' c.env)]) {Q : Value → Shared → Prop} {E : Value → Shared → Prop}
    (H : ∀ u u' s', Keeps s s' → Rep s'.heap (okC c k a) u v1 → Rep s'.heap (okC c k a) u' v2 → wpAny c.M c.A (call (.builtin id) [u, u']) Q E s') : wpAny c.M c.A (eval (.Call (.Name x np) [e, e'] [] pos) c.env) Q E s := by
  refine Call_ (ld_free S.in hx hv hk (callWith_builtin1 ?_ (by rw [he, he']) (by rw [he']; rfl)))
  exact args_cons (h1 s a S _ E fun u s1 K1 r1 => args_cons (h2 s1 a (S.keeps K1) _ E fun u' s2 K2 r2 => args_nil (H u u' s2 (ktrans K1 K2) (r1.keeps K2) r2)) (by exact he')) (by rw [he, he'])

theorem Ev.len {np pos : Pos} {e : Expr} {xs : List PV} (h1 : EvW c m k e (.list xs)) (hlen : xs.length ≤ 16777216) (hk : c.env.kindOf "len" = some .globalImplicit) (he : starEach [e] c.env = [(false, eval e c.env)]) : Ev c m k (.Call (.Name "len" np) [e] [] pos) (.int xs.length) := by
  intro s a S Q E hQ
  refine call1 S (by simp) boot_len hk h1 he fun u s1 K1 r1 => ?_
  obtain ⟨l, n, its, rfl, ha, hl, hr⟩ := rep_list r1
  have e1 := hr.length
  refine Calls.call_len_list hl.isList (by simp; omega) (hQ _ _ (ktrans K1 (ktoks s1 _)) ?_)
  rw [List.size_toArray, e1]; exact .int _ _
theorem Ev.lenB {np pos : Pos} {e : Expr} {b : List UInt8} (h1 : EvW c m k e (.bytes b)) (hlen : b.length ≤ 16777216) (hk : c.env.kindOf "len" = some .globalImplicit) (he : starEach [e] c.env = [(false, eval e c.env)]) : Ev c m k (.Call (.Name "len" np) [e] [] pos) (.int b.length) := by
  intro s a S Q E hQ
  refine call1 S (by simp) boot_len hk h1 he fun u s1 K1 r1 => ?_
  obtain ⟨t, rfl⟩ := rep_bytes r1
  refine PySem.W.len_bytes (by simp; omega) (hQ _ _ (ktrans K1 (ktoks s1 _)) ?_)
  rw [List.size_toArray]; exact .int _ _

/-- the octets of ints in 0 .. 255 -/
def octs (l : List Int) : List UInt8 := l.map fun n => n.toNat.toUInt8
theorem Ev.bytes {np pos : Pos} {e : Expr} {l : List Int} (h1 : EvW c m k e (IL l)) (hr : ∀ n ∈ l, 0 ≤ n ∧ n < 256) (hlen : l.length ≤ 16777216) (hk : c.env.kindOf "bytes" = some .globalImplicit) (he : starEach [e] c.env = [(false, eval e c.env)]) :
    Ev c m k (.Call (.Name "bytes" np) [e] [] pos) (.bytes (octs l)) := by
  intro s a S Q E hQ
  refine call1T S (by simp) boot_bytes hk h1 he fun u s1 K1 r1 => ?_
  obtain ⟨la, n, its, rfl, ha, hl, hrs⟩ := rep_list r1
  have hi := reps_ints hrs
  exact call_bytes_ints hl.isList hi hr (by rw [size_line, hi.length]; exact hlen) c.handled fun h' t k' hk' => hQ _ _ (ktrans K1 (kmk hk')) (.bytes _ _)
theorem Ev.abs {np pos : Pos} {e : Expr} {i : Int} (h1 : EvW c m k e (.int i)) (hk : c.env.kindOf "abs" = some .globalImplicit) (he : starEach [e] c.env = [(false, eval e c.env)]) : Ev c m k (.Call (.Name "abs" np) [e] [] pos) (.int i.natAbs) := by
  intro s a S Q E hQ
  refine call1 S (by simp) boot_abs hk h1 he fun u s1 K1 r1 => ?_
  obtain ⟨t, rfl⟩ := rep_int r1
  refine call_abs_int fun u' tk => hQ _ _ (ktrans K1 (ktoks s1 _)) ?_
  have e1 : (if i < 0 then -i else i) = (i.natAbs : Int) := by split <;> omega
  rw [e1]; exact .int _ _
theorem Ev.divmod {np pos : Pos} {e e' : Expr} {i j : Int} (h1 : Ev c m k e (.int i)) (h2 : Ev c m k e' (.int j)) (hj : 0 < j) (hk : c.env.kindOf "divmod" = some .globalImplicit) (he : starEach [e, e'] c.env = [(false, eval e c.env), (false, eval e' c.env)]) (he' : starEach [e'] c.env = [(false, eval e' c.env)]) :
    Ev c m k (.Call (.Name "divmod" np) [e, e'] [] pos) (.tup [.int (i / j), .int (i % j)]) := by
  intro s a S Q E hQ
  refine call2 S (by simp) boot_divmod hk h1 h2 he he' fun u u' s1 K1 r1 r2 => ?_
  obtain ⟨t, rfl⟩ := rep_int r1
  obtain ⟨t', rfl⟩ := rep_int r2
  refine divmod_int (by omega) (hQ _ _ (ktrans K1 (kmk fun b o e => Heap.get?_push_of_some _ e)) ?_) (.inr (room s1 (S.keeps K1).in))
  refine .tup (n := 0) ((S.keeps K1).fresh _ (Nat.le_refl _)) (items := [.int (i.fdiv j) s1.toks, .int (i.fmod j) (s1.toks + 1)]) (Heap.get?_push_size _ rfl) ?_
  rw [Int.fdiv_eq_ediv_of_nonneg _ (by omega), Int.fmod_eq_emod_of_nonneg _ (by omega)]
  exact .cons (.int _ _) (.cons (.int _ _) .nil)
theorem Ev.max {np pos : Pos} {e e' : Expr} {i j : Int} (h1 : Ev c m k e (.int i)) (h2 : Ev c m k e' (.int j)) (hk : c.env.kindOf "max" = some .globalImplicit) (he : starEach [e, e'] c.env = [(false, eval e c.env), (false, eval e' c.env)]) (he' : starEach [e'] c.env = [(false, eval e' c.env)]) :
    Ev c m k (.Call (.Name "max" np) [e, e'] [] pos) (.int (Max.max i j)) := by
  intro s a S Q E hQ
  refine call2 S (by simp) boot_max hk h1 h2 he he' fun u u' s1 K1 r1 r2 => ?_
  obtain ⟨t, rfl⟩ := rep_int r1
  obtain ⟨t', rfl⟩ := rep_int r2
  refine max_two_ints c.handled fun h' tk hk' => hQ _ _ (ktrans K1 (kmk hk')) ?_
  by_cases hij : j > i
  · rw [if_pos hij, show Max.max i j = j by omega]; exact .int _ _
  · rw [if_neg hij, show Max.max i j = i by omega]; exact .int _ _
theorem preSum_list (l : List Int) : ∀ n : Nat, n ≤ l.length → preSum (fun j => l.getD j 0) n = (l.take n).sum := fun n hn => KBmo.pre_take l n hn
theorem Ev.sum {np pos : Pos} {e : Expr} {l : List Int} (h1 : EvW c m k e (IL l)) (hk : c.env.kindOf "sum" = some .globalImplicit) (he : starEach [e] c.env = [(false, eval e c.env)]) : Ev c m k (.Call (.Name "sum" np) [e] [] pos) (.int l.sum) := by
  intro s a S Q E hQ
  refine call1 S (by simp) boot_sum hk h1 he fun u s1 K1 r1 => ?_
  obtain ⟨la, n, its, rfl, ha, hl, hrs⟩ := rep_list r1
  have hi := reps_ints hrs
  have hne : la ≠ s1.heap.objs.size := Nat.ne_of_lt (Heap.lt_size hl)
  refine call_sum_walkG (wpAny_pyIter_list hl.isList ?_)
  refine ⟨s1.heap.objs.size, _, _, _, _, _, fun j => l.getD j 0, rfl, Walks.list (by exact c.handled) s1.heap.objs.size la hne its.toArray, ⟨⟨_, Heap.get?_push_size _ rfl, rfl, rfl⟩, hl.isList.push _⟩, ?_, ?_, ?_⟩
  · intro b hb
    rw [Heap.size_push]
    rcases List.mem_cons.mp hb with rfl | hb
    · exact Nat.lt_succ_self _
    · rw [List.mem_singleton.mp hb]; exact Nat.lt_succ_of_lt (Heap.lt_size hl)
  · intro i v hv
    have hlt : i < l.length := by
      have := (Array.getElem?_eq_some_iff.mp hv).1
      rw [List.size_toArray, hi.length] at this; exact this
    obtain ⟨t, ht⟩ := hi.get i l[i] (by simp [hlt])
    refine ⟨t, ?_⟩
    have e1 : its[i]? = some v := by simpa using hv
    rw [ht] at e1
    rw [← Option.some.inj e1]
    simp [hlt]
  · intro h' tk t' hk'
    refine hQ _ _ (ktrans K1 (kmk fun b o e => hk' b o ?_ (Heap.get?_push_of_some _ e))) ?_
    · intro hb
      rw [List.mem_singleton.mp hb] at e
      exact absurd (Heap.lt_size e) (Nat.lt_irrefl _)
    · have e2 : preSum (fun j => l.getD j 0) its.toArray.size = l.sum := by
        rw [List.size_toArray, hi.length, preSum_list l _ (Nat.le_refl _), List.take_length]
      rw [e2]; exact .int _ _

/-- type(e) is not int, where e is one -/
theorem Tst.isInt {np np' pos pos' : Pos} {e : Expr} {i : Int} (h1 : EvW c m k e (.int i)) (hk : c.env.kindOf "type" = some .globalImplicit) (hk' : c.env.kindOf "int" = some .globalImplicit) (he : starEach [e] c.env = [(false, eval e c.env)]) :
    Tst c m k (.Compare (.Call (.Name "type" np) [e] [] pos) [.IsNot] [.Name "int" np'] pos') false := by
  intro s a S Q E hQ
  refine wpAny_isTrue_Compare1 (call1T S (by simp) boot_type hk h1 he fun u s1 K1 r1 => ?_) (by rfl)
  obtain ⟨t, rfl⟩ := rep_int r1
  refine call_type_of (typeIs_int _ _ _) (by decide) (ld_free (S.keeps K1).in (by simp) boot_int hk' (isnot_type_same (wpAny_truthy_bool (hQ s1 K1))))
theorem Tst.isBytes {np np' pos pos' : Pos} {e : Expr} {b : List UInt8} (h1 : EvW c m k e (.bytes b)) (hk : c.env.kindOf "type" = some .globalImplicit) (hk' : c.env.kindOf "bytes" = some .globalImplicit) (he : starEach [e] c.env = [(false, eval e c.env)]) :
    Tst c m k (.Compare (.Call (.Name "type" np) [e] [] pos) [.IsNot] [.Name "bytes" np'] pos') false := by
  intro s a S Q E hQ
  refine wpAny_isTrue_Compare1 (call1T S (by simp) boot_type hk h1 he fun u s1 K1 r1 => ?_) (by rfl)
  obtain ⟨t, rfl⟩ := rep_bytes r1
  refine call_type_of (PySem.W.typeIs_bytes _ _ _) (by decide) (ld_free (S.keeps K1).in (by simp) boot_bytes hk' (isnot_type_same (wpAny_truthy_bool (hQ s1 K1))))
end Mine

set_option maxRecDepth 100000
set_option linter.unusedVariables false
namespace Mine
open PySem PySem.W PyProof.Rows PySem.Calls
variable {c : Fx} {m : Loc} {k : Option PySem.Str}

/-! ## statements -/
theorem Fr.dict {h₀ h : Heap} {L : Addr} {mv : PySem.Str → Option Value} (F : Fr h₀ L h mv) : ∃ o es ep, h.get? L = some o ∧ o.data = .dict es ep := let ⟨o, es, ep, e, d, _⟩ := F.ns; ⟨o, es, ep, e, d⟩
theorem not_dict {h : Heap} {L b : Addr} {o o' : Obj} {es ep} (hL : h.get? L = some o) (hd : o.data = .dict es ep) (hb : h.get? b = some o') (hs : ∃ its n, o'.data = .seq its n) : b ≠ L := by
  rintro rfl
  rw [hL] at hb
  obtain ⟨its, n, e⟩ := hs
  rw [← Option.some.inj hb, hd] at e
  cases e

/-- a name of the frame stored -/
theorem St.store {a : Addr} {s : Shared} {x : PySem.Str} {u : Value} {v : PV} {Q : Unit → Shared → Prop} {E : Value → Shared → Prop} (S : St c m k a s) (hr : Rep s.heap (okC c k a) u v) (hx : k ≠ some x) (hl : c.env.kindOf x = some .local)
    (h : ∀ s', St c (upd m x v) k a s' → Ext (· = c.env.locals) k a k a s s' → (∀ b o, b ≠ c.env.locals → s.heap.get? b = some o → s'.heap.get? b = some o) → Q () s') : wpAny c.M c.A (storeName c.env x u) Q E s := by
  obtain ⟨mv, F, H, H2⟩ := S.ex
  obtain ⟨oL, es, ep, hL, hd⟩ := Fr.dict F
  refine wpAny_storeName_local hl F.ns (fun h' hn hs => ?_) (by rw [c.kind]; rfl)
  have keep : ∀ b o, b ≠ c.env.locals → s.heap.get? b = some o → h'.get? b = some o := fun b o hb e => (hs.2 b hb).trans e
  have up : ∀ {ok : Addr → Prop} {u : Value} {v : PV}, Rep s.heap ok u v → Rep h' ok u v := fun r => r.map fun b o hb e hq => ⟨keep b o (not_dict hL hd e hq) e, hb⟩
  refine h _ ⟨_, F.set hn hs, fun y w e => ?_, fun y e => ?_⟩ ⟨⟨_, _, rfl⟩, fun b o hb _ e => keep b o hb e, fun b o e => ?_, fun q => .inl ⟨q, rfl⟩⟩ keep
  · by_cases hy : y = x
    · subst hy
      rw [upd_same] at e
      cases e
      exact ⟨u, if_pos rfl, by rw [if_neg hx]; exact up hr⟩
    · rw [upd_ne hy rfl] at e
      obtain ⟨u', h1, h2⟩ := H y w e
      refine ⟨u', (if_neg hy).trans h1, ?_⟩
      split
      · rename_i q; rw [if_pos q] at h2; exact ⟨h2.1, up h2.2⟩
      · rename_i q; rw [if_neg q] at h2; exact up h2
  · obtain ⟨h1, h2, h3, its, n, h4⟩ := H2 y e
    have hy : y ≠ x := fun q => hx (q ▸ e)
    exact ⟨(if_neg hy).trans h1, h2, h3, its, n, keep _ _ h3 h4⟩
  · by_cases hb : b = c.env.locals
    · obtain ⟨o', _, _, e', _⟩ := hn
      exact ⟨o', hb ▸ e'⟩
    · exact ⟨o, keep b o hb e⟩

theorem Ex1.assign {x : PySem.Str} {p pos : Pos} {e : Expr} {v : PV} {P : Option PV → Loc → Option PySem.Str → Prop} (h : Ev c m k e v) (hx : k ≠ some x) (hl : c.env.kindOf x = some .local)
    (hs : swapsWith e (some (.Name x p)) pos.line c.env = pure false) (hP : P none (upd m x v) k) : Ex1 c m k (.Assign [.Name x p] e pos) P := by
  intro s a E S
  refine wpAny_Assign_Name (h s a S _ E fun u s1 K1 r1 => ?_) hs
  exact (S.keeps K1).store r1 hx hl fun s2 S2 X _ => ⟨none, _, k, a, .next, S2, (Ext.of_keeps K1).trans X, hP⟩
theorem Ex1.aug {x : PySem.Str} {p pos : Pos} {op : Operator} {e : Expr} {v1 v2 v : PV} {P : Option PV → Loc → Option PySem.Str → Prop} (h1 : m x = some v1) (h : Ev c m k e v2) (ho : IBinOk c op v1 v2 v) (hx : k ≠ some x) (hl : c.env.kindOf x = some .local)
    (hP : P none (upd m x v) k) : Ex1 c m k (.AugAssign (.Name x p) op e pos) P := by
  intro s a E S
  obtain ⟨mv, F, H, _⟩ := S.ex
  obtain ⟨u, hu, r⟩ := H x v1 h1
  rw [if_neg hx] at r
  refine wpAny_AugAssign_Name (wpAny_loadName_local c.kind hl F.ns hu (h s a S _ E fun u2 s1 K1 r2 => ?_))
  refine ho s1 _ u u2 (S.keeps K1).in (S.keeps K1).fresh (r.keeps K1) r2 _ E fun u3 s2 K2 r3 => ?_
  exact ((S.keeps K1).keeps K2).store r3 hx hl fun s3 S3 X _ => ⟨none, _, k, a, .next, S3, (Ext.of_keeps (ktrans K1 K2)).trans X, hP⟩
theorem Ex1.ret {e : Expr} {pos : Pos} {v : PV} {P : Option PV → Loc → Option PySem.Str → Prop} (h : EvW c m k e v) (hP : P (some v) m k) : Ex1 c m k (.Return (some e) pos) P := by
  intro s a E S
  exact wpAny_Return_some (h s a S _ E fun u s1 K1 r1 => ⟨some v, m, k, a, .ret r1, S.keeps K1, Ext.of_keeps K1, hP⟩)
theorem Ex1.ite {t : Expr} {body orelse : List Stmt} {pos : Pos} {b : Bool} {P : Option PV → Loc → Option PySem.Str → Prop} (ht : Tst c m k t b) (h1 : b = true → Ex c m k body P) (h2 : b = false → Ex c m k orelse P) : Ex1 c m k (.If t body orelse pos) P := by
  intro s a E S
  refine wpAny_If (ht s a S _ E fun s1 K1 => ?_)
  have go : ∀ {ss : List Stmt}, Ex c m k ss P → wpAny c.M c.A (execs ss c.env) (fun f s' => ∃ r m' k' a', Fl c s'.heap f r ∧ St c m' k' a' s' ∧ Ext (· = c.env.locals) k a k' a' s s' ∧ P r m' k') E s1 := fun h =>
    wpAny_mono (h s1 a E (S.keeps K1)) (fun _ _ ⟨r, m', k', a', q1, q2, q3, q4⟩ => ⟨r, m', k', a', q1, q2, (Ext.of_keeps K1).trans q3, q4⟩) fun _ _ e => e
  cases b with
  | true => exact go (h1 rfl)
  | false => exact go (h2 rfl)

/-- a turn's end, in a loop -/
def Turn (J : Loc → Option PySem.Str → Prop) (P : Option PV → Loc → Option PySem.Str → Prop) : Option PV → Loc → Option PySem.Str → Prop
  | none, m, k => J m k
  | some v, m, k => P (some v) m k

theorem Ex1.while {t : Expr} {body : List Stmt} {pos : Pos} {P : Option PV → Loc → Option PySem.Str → Prop} (I : Nat → Loc → Option PySem.Str → Prop) (n : Nat) (h0 : I n m k)
    (turn : ∀ n m' k', I n m' k' → ∃ b, Tst c m' k' t b ∧ (b = true → Ex c m' k' body (Turn (fun m'' k'' => ∃ n', n' < n ∧ I n' m'' k'') P)) ∧ (b = false → P none m' k')) : Ex1 c m k (.While t body [] pos) P := by
  intro s a E S
  refine wpAny_While (codeAny_whileLoop (fun n s' => ∃ m' k' a', I n m' k' ∧ St c m' k' a' s' ∧ Ext (· = c.env.locals) k a k' a' s s') ?_ n ⟨m, k, a, h0, S, .refl⟩)
  rintro n s' ⟨m', k', a', hI, S', X⟩
  obtain ⟨b, ht, hb, hf⟩ := turn n m' k' hI
  refine ht s' a' S' _ _ fun s1 K1 => ?_
  cases b with
  | true =>
    refine wpAny_mono (hb rfl s1 a' _ (S'.keeps K1)) ?_ fun _ _ e => e
    rintro f s2 ⟨r, m2, k2, a2, hfl, S2, X2, hP⟩
    have X3 := (X.trans (Ext.of_keeps K1)).trans X2
    cases hfl with
    | next => obtain ⟨n', hn, hI'⟩ := hP; exact ⟨n', hn, m2, k2, a2, hI', S2, X3⟩
    | ret hr => exact ⟨_, m2, k2, a2, .ret hr, S2, X3, hP⟩
  | false => exact wpAny_execs_nil ⟨none, m', k', a', .next, S'.keeps K1, X.trans (Ext.of_keeps K1), hf rfl⟩

/-! ### what a target's assignment stores -/
def Tgt (c : Fx) (k : Option PySem.Str) (t : Expr) (v : PV) (f : Loc → Loc) : Prop :=
  ∀ (m : Loc) (a : Addr) (s : Shared) (u : Value), St c m k a s → Rep s.heap (okC c k a) u v → ∀ (Q : Unit → Shared → Prop) (E : Value → Shared → Prop),
    (∀ s', St c (f m) k a s' → Ext (· = c.env.locals) k a k a s s' → (∀ b o, b ≠ c.env.locals → s.heap.get? b = some o → s'.heap.get? b = some o) → Q () s') → wpAny c.M c.A (assign t c.env u) Q E s
theorem Tgt.name {x : PySem.Str} {p : Pos} {v : PV} (hx : k ≠ some x) (hl : c.env.kindOf x = some .local) : Tgt c k (.Name x p) v (fun m => upd m x v) :=
  fun m a s u S r Q E hQ => wpAny_assign_Name (S.store r hx hl hQ)
theorem Tgt.nil {us : List Value} {m : Loc} {a : Addr} {s : Shared} {Q : Unit → Shared → Prop} {E : Value → Shared → Prop} (h : Q () s) : wpAny c.M c.A (assignInOrder [] us) Q E s := wpAny_pure h

/-! ### for -/
def badIters : List String := ["enumerate", "zip", "dict_itemiterator", "dict_reverseitemiterator", "odict_iterator", "itertools.zip_longest", "itertools.pairwise"]
def IterObj (h : Heap) (I : Addr) : Prop := ∃ o n vs, h.get? I = some o ∧ o.cls = .type n ∧ o.data = .fields vs ∧ badIters.contains n = false
theorem letGo_ok {s : Shared} {I : Addr} {v : Value} {target : Expr} {Q : Unit → Shared → Prop} {E : Value → Shared → Prop} (h : IterObj s.heap I) (hQ : Q () s) : wpAny c.M c.A (letOwnedTupleGo target (.ref I) v) Q E s := by
  obtain ⟨o, n, vs, ho, hc, hd, hn⟩ := h
  have go : ∀ T : Addr, wpAny c.M c.A (do
    let o ← load I
    match o.cls, o.data with
    | .type n, .fields vs =>
      if ["enumerate", "zip", "dict_itemiterator", "dict_reverseitemiterator", "odict_iterator", "itertools.zip_longest", "itertools.pairwise"].contains n && vs[0]? == some (rawInt T) then
        rule "for.unpacks-the-owned-tuple"
        updateField I 0 .none
    | _, _ => pure ()) Q E s := by
    intro T
    refine wpAny_bind (wpAny_load ho ?_)
    rw [hc, hd]
    dsimp only
    rw [if_neg (by intro q; rw [show (["enumerate", "zip", "dict_itemiterator", "dict_reverseitemiterator", "odict_iterator", "itertools.zip_longest", "itertools.pairwise"].contains n) = false from hn, Bool.false_and] at q; cases q)]
    exact wpAny_pure hQ
  cases target <;> first
    | exact wpAny_pure hQ
    | (cases v <;> first | exact wpAny_pure hQ | exact go _)

structure Iter (c : Fx) (k : Option PySem.Str) (a : Addr) (xs : List PV) (s : Shared) (it : Value) (s' : Shared) : Prop where
  keeps : Keeps s s'
  walk : ∃ (I : Addr) (fp : List Addr) (P : Nat → Value → Prop) (St' : Nat → Heap → Prop), it = .ref I ∧ Walks c.prog c.w c.A I fp [I] xs.length P St' ∧ St' 0 s'.heap ∧
    (∀ b ∈ fp, okOf k a b ∧ b ≠ c.env.locals ∧ ∃ o, s'.heap.get? b = some o) ∧ s.heap.get? I = none ∧ (∀ i h, St' i h → IterObj h I) ∧
    (∀ i v, i < xs.length → P i v → ∃ x, xs[i]? = some x ∧ Rep s'.heap (fun b => okC c k a b ∧ b ≠ I) v x)
def IterOk (c : Fx) (m : Loc) (k : Option PySem.Str) (e : Expr) (xs : List PV) : Prop :=
  ∀ (s : Shared) (a : Addr), St c m k a s → ∀ (Q : Value → Shared → Prop) (E : Value → Shared → Prop), (∀ it s', Iter c k a xs s it s' → Q it s') →
    wpAny c.M c.A (eval e c.env) (fun x s₁ => wpAny c.M c.A (pyIter x) Q E s₁) E s

/-- a state where only an iterator has moved -/
theorem St.iter {a : Addr} {s : Shared} {h' : Heap} {tk : Nat} {I : Addr} (S : St c m k a s) (hI : c.h₀.get? I = none) (hL : I ≠ c.env.locals) (ho : IterObj s.heap I)
    (hk : ∀ b o, b ∉ [I] → s.heap.get? b = some o → h'.get? b = some o) : St c m k a { s with heap := h', toks := tk } := by
  obtain ⟨mv, F, H, H2⟩ := S.ex
  obtain ⟨o, n, vs, h1, h2, h3, _⟩ := ho
  have keep : ∀ b o, b ≠ I → s.heap.get? b = some o → h'.get? b = some o := fun b o hb e => hk b o (by simpa using hb) e
  have seqNe : ∀ b o', s.heap.get? b = some o' → (∃ its n, o'.data = .seq its n) → b ≠ I := by
    rintro b o' e ⟨its, q, d⟩ rfl
    rw [h1] at e
    rw [← Option.some.inj e, h3] at d
    cases d
  have up : ∀ {ok : Addr → Prop} {u : Value} {v : PV}, Rep s.heap ok u v → Rep h' ok u v := fun r => r.map fun b o hb e hq => ⟨keep b o (seqNe b o e hq) e, hb⟩
  have F' : Fr c.h₀ c.env.locals h' mv := by
    obtain ⟨oL, es, ep, e1, e2⟩ := F.ns
    exact ⟨⟨oL, es, ep, keep _ _ (Ne.symm hL) e1, e2⟩, fun b o e => keep b o (fun q => by rw [q, hI] at e; cases e) (F.keep b o e), F.above⟩
  refine ⟨mv, F', fun x v e => ?_, fun x e => ?_⟩
  · obtain ⟨u, q1, q2⟩ := H x v e
    refine ⟨u, q1, ?_⟩
    split
    · rename_i q; rw [if_pos q] at q2; exact ⟨q2.1, up q2.2⟩
    · rename_i q; rw [if_neg q] at q2; exact up q2
  · obtain ⟨q1, q2, q3, its, n, q4⟩ := H2 x e
    exact ⟨q1, q2, q3, its, n, keep _ _ (seqNe _ _ q4 ⟨_, _, rfl⟩) q4⟩

theorem Ex1.for {t iter : Expr} {body : List Stmt} {pos : Pos} {xs : List PV} {P : Option PV → Loc → Option PySem.Str → Prop} (hi : IterOk c m k iter xs) (Inv : Nat → Loc → Option PySem.Str → Prop) (h0 : Inv 0 m k)
    (turn : ∀ i x m' k', xs[i]? = some x → Inv i m' k' → ∃ f, Tgt c k' t x f ∧ Ex c (f m') k' body (Turn (Inv (i + 1)) P)) (done : ∀ m' k', Inv xs.length m' k' → P none m' k')
    (hs : ∀ x, foldedSetIterable iter c.env x = pure x) : Ex1 c m k (.For t iter body [] pos) P := by
  intro s a E S
  refine wpAny_For (hi s a S _ E fun it s₁ W => ?_) hs
  obtain ⟨K, I, fp, Pi, St', rfl, W, st0, hfp, hI, hobj, hP⟩ := W
  have SI : ∀ b o, s.heap.get? b = some o → b ≠ I := fun b o e q => by rw [q, hI] at e; cases e
  obtain ⟨mv₀, F₀, _, _⟩ := S.ex
  have hIh : c.h₀.get? I = none := by
    cases z : c.h₀.get? I with
    | none => rfl
    | some o => exact absurd rfl (SI _ _ (F₀.keep _ _ z))
  have hIL : I ≠ c.env.locals := by
    obtain ⟨oL, _, _, e, _⟩ := F₀.ns
    exact fun q => SI _ _ e q.symm
  -- the whole's end
  have fin : ∀ k' a' s', Ext (fun b => b = c.env.locals ∨ b = I) k a k' a' s₁ s' → Ext (· = c.env.locals) k a k' a' s s' := fun k' a' s' X => by
    obtain ⟨h1, t1, rfl, hk1⟩ := K
    obtain ⟨h2, t2, rfl⟩ := X.same
    refine ⟨⟨h2, t2, rfl⟩, fun b o hb hok e => X.kept b o (fun q => q.elim hb (SI b o e)) hok (hk1 b o e), fun b o e => X.live b o (hk1 b o e), fun q => ?_⟩
    rcases X.from' q with z | z
    · exact .inl z
    · right
      cases y : s.heap.get? a' with
      | none => rfl
      | some o => rw [hk1 _ _ y] at z; cases z
  refine codeAny_forLoop_any (fun n s' => ∃ i m' k' a', i ≤ xs.length ∧ n = xs.length + 1 - i ∧ Inv i m' k' ∧ St c m' k' a' s' ∧ Ext (fun b => b = c.env.locals ∨ b = I) k a k' a' s₁ s' ∧ St' i s'.heap) ?_ (xs.length + 1)
    ⟨0, m, k, a, Nat.zero_le _, rfl, h0, S.keeps K, .refl, st0⟩
  rintro n s' ⟨i, m', k', a', hle, rfl, hInv, S', X, st⟩
  by_cases hlt : i < xs.length
  · refine W.item i s' _ _ hlt st fun v h' tk hPv st1 hk' => ?_
    have hIt := hobj _ _ st
    have S1 : St c m' k' a' { s' with heap := h', toks := tk } := S'.iter hIh hIL hIt hk'
    have X1 : Ext (fun b => b = c.env.locals ∨ b = I) k' a' k' a' s' { s' with heap := h', toks := tk } := by
      refine ⟨⟨_, _, rfl⟩, fun b o hb _ e => hk' b o (by simpa using fun q => hb (.inr q)) e, fun b o e => ?_, fun q => .inl ⟨q, rfl⟩⟩
      by_cases hb : b = I
      · obtain ⟨o', _, _, e', _⟩ := hobj _ _ st1
        exact ⟨o', hb ▸ e'⟩
      · exact ⟨o, hk' b o (by simpa using hb) e⟩
    refine letGo_ok (hobj _ _ st1) ?_
    obtain ⟨x, hx, rx⟩ := hP i v hlt hPv
    have X2 := X.trans X1
    have rx' : Rep h' (okC c k' a') v x := by
      refine rx.map fun b o hb e hq => ?_
      have hbL : b ≠ c.env.locals := by
        obtain ⟨mv1, F1, _, _⟩ := (S.keeps K).ex
        obtain ⟨oL, es, ep, q1, q2⟩ := Fr.dict F1
        exact not_dict q1 q2 e hq
      exact ⟨X2.kept b o (fun q => q.elim hbL hb.2) hb.1.2 e, hb.1.1, X2.off hb.1.2 e⟩
    obtain ⟨f, hf, hbody⟩ := turn i x m' k' hx hInv
    refine hf m' a' _ v S1 rx' _ _ fun s2 S2 X3 hk2 => ?_
    have st2 : St' (i + 1) s2.heap := W.frame _ _ _ st1 fun b hb o e => hk2 b o (hfp b hb).2.1 e
    refine wpAny_mono (hbody s2 a' _ S2) ?_ fun _ _ e => e
    rintro fl s3 ⟨r, m3, k3, a3, hfl, S3, X4, hR⟩
    have X5 : Ext (fun b => b = c.env.locals ∨ b = I) k a k3 a3 s₁ s3 := (X2.trans (X3.weaken fun _ q => .inl q)).trans (X4.weaken fun _ q => .inl q)
    cases hfl with
    | next =>
      refine ⟨xs.length + 1 - (i + 1), by omega, i + 1, m3, k3, a3, hlt, rfl, hR, S3, X5, ?_⟩
      refine W.frame _ _ _ st2 fun b hb o e => X4.kept b o (hfp b hb).2.1 ?_ e
      obtain ⟨q1, q2, o', q3⟩ := hfp b hb
      exact X2.off q1 q3
    | ret hr => exact ⟨_, m3, k3, a3, .ret hr, S3, fin _ _ _ X5, hR⟩
  · have hie : i = xs.length := by omega
    subst hie
    refine W.done s' _ _ st fun h' tk hk' => ?_
    have hIt := hobj _ _ st
    refine wpAny_execs_nil ⟨none, m', k', a', .next, S'.iter hIh hIL hIt hk', ?_, done m' k' hInv⟩
    have X0 := fin _ _ _ X
    obtain ⟨h2, t2, e2⟩ := X0.same
    refine ⟨⟨h', tk, by rw [e2]⟩, fun b o hb hok e => hk' b o (by simpa using SI b o e) (X0.kept b o hb hok e), fun b o e => ?_, X0.from'⟩
    obtain ⟨o', e'⟩ := X0.live b o e
    exact ⟨o', hk' b o' (by simpa using SI b o e) e'⟩

/-! ### sources of a loop -/
theorem IterOk.list {e : Expr} {xs : List PV} (h : Ev c m k e (.list xs)) : IterOk c m k e xs := by
  intro s a S Q E hQ
  refine h s a S _ E fun u s1 K1 r1 => ?_
  obtain ⟨l, n, its, rfl, ha, hl, hr⟩ := rep_list r1
  have hne : l ≠ s1.heap.objs.size := Nat.ne_of_lt (Heap.lt_size hl)
  refine wpAny_pyIter_list hl.isList (hQ _ _ ⟨ktrans K1 (kpush s1 _), s1.heap.objs.size, [s1.heap.objs.size, l], fun i v => its.toArray[i]? = some v, fun i h => h.IsListIter s1.heap.objs.size l i ∧ h.IsList l its.toArray, rfl, ?_, ⟨⟨_, Heap.get?_push_size _ rfl, rfl, rfl⟩, hl.isList.push _⟩, ?_, ?_, ?_, ?_⟩)
  · have W := Walks.list (prog := c.prog) (w := c.w) c.handled s1.heap.objs.size l hne its.toArray
    have e1 : its.toArray.size = xs.length := by simp [hr.length]
    rw [e1] at W
    exact W
  · obtain ⟨mv, F, _, _⟩ := (S.keeps K1).ex
    obtain ⟨oL, es, ep, q1, q2⟩ := Fr.dict F
    intro b hb
    rcases List.mem_cons.mp hb with rfl | hb
    · exact ⟨((S.keeps K1).fresh _ (Nat.le_refl _)).2, fun q => absurd (Heap.lt_size q1) (q ▸ Nat.lt_irrefl _), _, Heap.get?_push_size _ rfl⟩
    · rw [List.mem_singleton.mp hb]
      exact ⟨ha.2, not_dict q1 q2 hl ⟨_, _, rfl⟩, _, Heap.get?_push_of_some _ hl⟩
  · cases z : s.heap.get? s1.heap.objs.size with
    | none => rfl
    | some o => obtain ⟨h', tk, rfl, hk⟩ := K1; exact absurd (Heap.lt_size (hk _ _ z)) (Nat.lt_irrefl _)
  · rintro i h ⟨⟨o, q1, q2, q3⟩, _⟩
    exact ⟨o, _, _, q1, q2, q3, by decide⟩
  · intro i v _ hv
    obtain ⟨x, hx, rx⟩ := hr.get' (i := i) (v := v) (by simpa using hv)
    refine ⟨x, hx, rx.map fun b o hb e hq => ⟨Heap.get?_push_of_some _ e, hb, fun q => ?_⟩⟩
    rw [q] at e
    exact absurd (Heap.lt_size e) (Nat.lt_irrefl _)
theorem IterOk.tup {e : Expr} {xs : List PV} (h : Ev c m k e (.tup xs)) : IterOk c m k e xs := by
  intro s a S Q E hQ
  refine h s a S _ E fun u s1 K1 r1 => ?_
  obtain ⟨l, n, its, rfl, ha, hl, hr⟩ := rep_tup r1
  have hne : l ≠ s1.heap.objs.size := Nat.ne_of_lt (Heap.lt_size hl)
  refine wpAny_pyIter_tuple (rep_isT hl) (hQ _ _ ⟨ktrans K1 (kpush s1 _), s1.heap.objs.size, [s1.heap.objs.size, l], fun i v => its.toArray[i]? = some v, fun i h => h.IsTupleIter s1.heap.objs.size l i ∧ h.IsTuple l its.toArray, rfl, ?_, ⟨⟨_, Heap.get?_push_size _ rfl, rfl, rfl⟩, (rep_isT hl).at fun o e => Heap.get?_push_of_some _ e⟩, ?_, ?_, ?_, ?_⟩)
  · have W := Walks.tuple (prog := c.prog) (w := c.w) c.handled s1.heap.objs.size l hne its.toArray
    have e1 : its.toArray.size = xs.length := by simp [hr.length]
    rw [e1] at W
    exact W
  · obtain ⟨mv, F, _, _⟩ := (S.keeps K1).ex
    obtain ⟨oL, es, ep, q1, q2⟩ := Fr.dict F
    intro b hb
    rcases List.mem_cons.mp hb with rfl | hb
    · exact ⟨((S.keeps K1).fresh _ (Nat.le_refl _)).2, fun q => absurd (Heap.lt_size q1) (q ▸ Nat.lt_irrefl _), _, Heap.get?_push_size _ rfl⟩
    · rw [List.mem_singleton.mp hb]
      exact ⟨ha.2, not_dict q1 q2 hl ⟨_, _, rfl⟩, _, Heap.get?_push_of_some _ hl⟩
  · cases z : s.heap.get? s1.heap.objs.size with
    | none => rfl
    | some o => obtain ⟨h', tk, rfl, hk⟩ := K1; exact absurd (Heap.lt_size (hk _ _ z)) (Nat.lt_irrefl _)
  · rintro i h ⟨⟨o, q1, q2, q3⟩, _⟩
    exact ⟨o, _, _, q1, q2, q3, by decide⟩
  · intro i v _ hv
    obtain ⟨x, hx, rx⟩ := hr.get' (i := i) (v := v) (by simpa using hv)
    refine ⟨x, hx, rx.map fun b o hb e hq => ⟨Heap.get?_push_of_some _ e, hb, fun q => ?_⟩⟩
    rw [q] at e
    exact absurd (Heap.lt_size e) (Nat.lt_irrefl _)

def rangeL (n : Nat) : List PV := (List.range n).map fun (i : Nat) => PV.int (i : Int)
theorem IterOk.range {e : Expr} {np pos : Pos} {n : Nat} (h : EvW c m k e (.int n)) (hn : n < 2 ^ 62) (hk : c.env.kindOf "range" = some .globalImplicit) (he : starEach [e] c.env = [(false, eval e c.env)]) : IterOk c m k (.Call (.Name "range" np) [e] [] pos) (rangeL n) := by
  intro s a S Q E hQ
  refine call1T S (by simp) boot_range hk h he fun u s1 K1 r1 => ?_
  obtain ⟨t, rfl⟩ := rep_int r1
  refine call_range_1 ?_
  refine wpAny_pyIter_range (IsRange.new s1.heap 0 n 1 s1.toks t (s1.toks + 1)) (small_one (by omega) (by omega) (by omega) (by omega)) ?_
  have hsz : (s1.heap.push { cls := .type "range", data := .fields #[.int 0 s1.toks, .int n t, .int 1 (s1.toks + 1)] }).objs.size = s1.heap.objs.size + 1 := Heap.size_push ..
  have K2 : Keeps s1 { s1 with heap := s1.heap.push { cls := .type "range", data := .fields #[.int 0 s1.toks, .int n t, .int 1 (s1.toks + 1)] }, toks := s1.toks + 1 + 1 } := kmk fun b o e => Heap.get?_push_of_some _ e
  refine hQ _ _ ⟨ktrans (ktrans K1 K2) (kpush _ _), (s1.heap.push { cls := .type "range", data := .fields #[.int 0 s1.toks, .int n t, .int 1 (s1.toks + 1)] }).objs.size, [(s1.heap.push { cls := .type "range", data := .fields #[.int 0 s1.toks, .int n t, .int 1 (s1.toks + 1)] }).objs.size], fun i v => ∃ t, v = .int (0 + (i : Nat) * 1) t, fun i h => IsRangeIter h (s1.heap.push { cls := .type "range", data := .fields #[.int 0 s1.toks, .int n t, .int 1 (s1.toks + 1)] }).objs.size (0 + (i : Nat) * 1) ((n : Int) - (i : Nat)) 1, rfl, ?_, ?_, ?_, ?_, ?_, ?_⟩
  · have W := Walks.range (prog := c.prog) (w := c.w) c.handled (s1.heap.push { cls := .type "range", data := .fields #[.int 0 s1.toks, .int n t, .int 1 (s1.toks + 1)] }).objs.size 0 1 n
    have e1 : (rangeL n).length = n := by simp [rangeL]
    rw [e1]; exact W
  · have e2 : Builtin.Range.rangeSize 0 (n : Int) 1 = (n : Int) := by rw [rangeSize_one]; split <;> omega
    rw [e2]
    simp only [Int.natCast_zero, Int.zero_mul, Int.add_zero, Int.sub_zero]
    exact Heap.get?_push_size _ rfl
  · obtain ⟨mv, F, _, _⟩ := (S.keeps (ktrans K1 K2)).ex
    obtain ⟨oL, es, ep, q1, q2⟩ := Fr.dict F
    intro b hb
    rw [List.mem_singleton.mp hb]
    exact ⟨((S.keeps (ktrans K1 K2)).fresh _ (Nat.le_refl _)).2, fun q => absurd (Heap.lt_size q1) (q ▸ Nat.lt_irrefl _), _, Heap.get?_push_size _ rfl⟩
  · obtain ⟨h', tk, e4, hk⟩ := ktrans K1 K2
    cases z : s.heap.get? (s1.heap.push { cls := .type "range", data := .fields #[.int 0 s1.toks, .int n t, .int 1 (s1.toks + 1)] }).objs.size with
    | none => rfl
    | some o =>
      have q := hk _ _ z
      have e5 : h' = (s1.heap.push { cls := .type "range", data := .fields #[.int 0 s1.toks, .int n t, .int 1 (s1.toks + 1)] }) := by
        have := congrArg Shared.heap e4
        exact this.symm
      rw [e5] at q
      exact absurd (Heap.lt_size q) (Nat.lt_irrefl _)
  · intro i h hit
    exact ⟨_, _, _, hit, rfl, rfl, by decide⟩
  · rintro i v hi ⟨t', rfl⟩
    have hi' : i < n := by simpa [rangeL] using hi
    refine ⟨.int i, by simp [rangeL, hi'], ?_⟩
    rw [Int.mul_one, Int.zero_add]
    exact .int _ _
end Mine

set_option maxRecDepth 100000
set_option linter.unusedVariables false
namespace Mine
open PySem PySem.W PyProof.Rows PySem.Calls
variable {c : Fx} {m : Loc} {k : Option PySem.Str}

/-! ## calls of the text's own defs -/
def bindsOf (d : Fn) (vs : List PV) : Loc := fun x => ((d.params.args.map (·.arg)).zip vs).reverse.lookup x

/-- in every frame of d's, with vs for its parameters, the body ends with v -/
def Spec (fns : List Fn) (lv : Nat) (d : Fn) (vs : List PV) (v : PV) : Prop :=
  ∀ c' : Fx, c'.fns = fns → lv ≤ c'.lv → (∃ L f cd, c'.env = envOf d.name d.scope L f cd) → Ex c' (bindsOf d vs) none d.body (fun r _ _ => r = some v)

theorem lookup_rep {h : Heap} {ok : Addr → Prop} (x : PySem.Str) : ∀ {names : List PySem.Str} {us : List Value} {vs : List PV}, RepAll h ok us vs → ∀ {v : PV}, (names.zip vs).lookup x = some v → ∃ u, (names.zip us).lookup x = some u ∧ Rep h ok u v
  | [], _, _, _, _, e => by simp at e
  | _ :: _, _, _, .nil, _, e => by simp at e
  | n :: names, _, _, .cons (v := u) (vs := us) (x := w) (xs := vs) r t, v, e => by
    simp only [List.zip_cons_cons, List.lookup_cons] at e ⊢
    split at e
    · cases e; exact ⟨u, rfl, r⟩
    · exact lookup_rep x t e
theorem lookup_rep_rev {h : Heap} {ok : Addr → Prop} (x : PySem.Str) {names : List PySem.Str} {us : List Value} {vs : List PV} (hl : names.length = vs.length) (r : RepAll h ok us vs) {v : PV} (e : (names.zip vs).reverse.lookup x = some v) :
    ∃ u, (names.zip us).reverse.lookup x = some u ∧ Rep h ok u v := by
  have e1 : (names.zip vs).reverse = names.reverse.zip vs.reverse := List.reverse_zipWith (by omega)
  have e2 : (names.zip us).reverse = names.reverse.zip us.reverse := List.reverse_zipWith (by rw [r.length]; omega)
  rw [e1] at e
  rw [e2]
  exact lookup_rep x r.reverse e

structure Callable (d : Fn) (n : Nat) : Prop where
  len : (d.params.args.map (·.arg)).length = n
  bind : ∀ (pm cd doc : Value) (us : List Value), us.length = n → bindArgs (docDef d.name d.params d.body d.scope pm cd doc) ⟨us, []⟩ = pure ((d.params.args.map (·.arg)).zip us)
  loc : ((d.params.args.map (·.arg)).all fun x => decide (d.scope.names.lookup x = some .local)) = true
  co : d.scope.isCoroutine = false
  gen : d.scope.isGenerator = false
  kind : d.scope.kind = .function
  cell : (d.scope.names.all fun x => decide (x.2 ≠ .cell)) = true

theorem Ev.call {d : Fn} {e : Expr} {es : List Expr} {np pos : Pos} {vs : List PV} {v : PV} (hd : d ∈ c.fns) (hC : Callable d (es.length + 1)) (hvs : vs.length = es.length + 1) (h : EvL c m k (e :: es) vs) (hlv : 0 < c.lv) (hspec : Spec c.fns (c.lv - 1) d vs v)
    (hk : c.env.kindOf d.name = some .globalImplicit) (hdb : (d.name == ("__debug__" : PySem.Str)) = false) (he : starEach (e :: es) c.env = (false, eval e c.env) :: starEach es c.env) : Ev c m k (.Call (.Name d.name np) (e :: es) [] pos) v := by
  intro s a S Q E hQ
  obtain ⟨f, o, pm, code, doc, hf, ho, hdat, hcd⟩ := c.base.fn d hd
  refine Call_ (ld_glob S.in hf hk hdb (callWith_def hdat (h pos s a S _ E fun us s1 K1 r1 => ?_) he))
  have S1 := S.keeps K1
  have I1 := S1.in
  refine ⟨I1 _ _ ho, wpAny_call ?_⟩
  have hul : us.length = es.length + 1 := r1.length.trans hvs
  obtain ⟨ef, lf, hfr⟩ := c.frames
  refine call_pos_ret (by have := c.depth; have e2 : recursionLimit = 1000 := rfl; omega) (I1 _ _ ho) hdat (c.base.nolimit.keeps I1) (hcd.keeps I1) (hC.bind pm code doc us hul) ?_ ?_ hC.co hC.gen hC.kind ?_
  · intro x hx
    have h1 : x.1 ∈ d.params.args.map (·.arg) := (List.of_mem_zip hx).1
    exact of_decide_eq_true (List.all_eq_true.mp hC.loc x.1 h1)
  · intro h₁ F
    let c' : Fx := {
      prog := c.prog, w := c.w, A := c.A.deeper (envOf d.name d.scope s1.heap.objs.size f code), env := envOf d.name d.scope s1.heap.objs.size f code, h₀ := s1.heap, mg := c.mg, mb := c.mb, fns := c.fns, lv := c.lv - 1
      kind := hC.kind, glob := rfl, blt := rfl, handled := c.handled
      depth := by have := c.depth; show c.A.depth + 1 + (c.lv - 1) < 400; omega
      units := by have := c.units; show c.A.units + 3 + 10 * (c.lv - 1) < 3000; omega
      tree := c.tree
      frames := ⟨_, ef :: lf, by show c.A.frames.map _ = _; rw [hfr.1]; rfl, hC.gen, hC.co, rfl, rfl⟩
      base := c.base.keeps I1
      ban := fun b => c.ban b ∨ (k.isSome = true ∧ b = a)
      banned := fun b hb => by
        show b ≤ s1.heap.objs.size
        obtain ⟨_, F1, _, H2⟩ := S1.ex
        rcases hb with hb | ⟨hb, rfl⟩
        · exact Nat.le_of_lt (Nat.lt_of_le_of_lt (c.banned b hb) F1.ns.lt)
        · cases k with
          | none => cases hb
          | some x => obtain ⟨_, _, _, _, _, q⟩ := H2 x rfl; exact Nat.le_of_lt (Heap.lt_size q) }
    have okk : ∀ b, okC c k a b → c'.any b := fun b hb q => q.elim hb.1 fun z => hb.2 z.1 z.2
    have S' : St c' (bindsOf d vs) none 0 { s1 with heap := h₁, toks := s1.toks + ((d.params.args.map (·.arg)).zip us).length } := by
      refine ⟨_, F, fun x w e => ?_, fun x e => by cases e⟩
      obtain ⟨u, q1, q2⟩ := lookup_rep_rev x (by rw [hC.len, hvs]) r1 e
      refine ⟨u, q1, ?_⟩
      rw [if_neg (by simp)]
      exact q2.map fun b o hb e _ => ⟨F.keep b o e, okk b hb, fun z => by cases z⟩
    refine wpAny_mono (hspec c' rfl (Nat.le_refl _) ⟨_, _, _, rfl⟩ _ 0 _ S') ?_ fun _ _ e => e
    rintro fl s2 ⟨r, m2, k2, a2, hfl, S2, X, rfl⟩
    obtain ⟨h2, t2, rfl⟩ := X.same
    cases hfl with
    | ret hr =>
      refine hQ _ _ (ktrans K1 (kmk S2.in)) (hr.map fun b o hb e _ => ⟨e, fun q => hb (.inl q), fun z q => hb (.inr ⟨z, q⟩)⟩)
  · intro x hx
    exact of_decide_eq_true (List.all_eq_true.mp hC.cell x hx)
end Mine

set_option maxRecDepth 100000
set_option linter.unusedVariables false
namespace Mine
open PySem PySem.W PyProof.Rows PySem.Calls
variable {c : Fx} {m : Loc} {k : Option PySem.Str}

/-! ## methods of int -/
theorem Ev.bitLength {e : Expr} {apos pos : Pos} {x : Int} (h : Ev c m k e (.int x))
    (he : ∃ pl : Sem Bool, eval (.Call (.Attribute e "bit_length" apos) [] [] pos) c.env = (do
      let ov ← eval e c.env
      standAt apos.atName
      let (f, first) ← holding [ov] (getMethod ov "bit_length" pl)
      callWith pos f first (backTo pos (starEach [] c.env)) [])) : Ev c m k (.Call (.Attribute e "bit_length" apos) [] [] pos) (.int (Builtin.Int.intBits x)) := by
  intro s a S Q E hQ
  obtain ⟨pl, he⟩ := he
  refine MethodCall_ (pl := pl) (h s a S _ E fun u s1 K1 r1 => ?_) he
  obtain ⟨t, rfl⟩ := rep_int r1
  exact getMethod_int_bit_length (callWith_method0 (call_int_bit_length (hQ _ _ (ktrans K1 (ktoks s1 _)) (.int _ _))))

theorem args_tb (a b c d : Value) : argsOk "int.to_bytes" ⟨[a, b], [("byteorder", c), ("signed", d)]⟩ := by unfold argsOk; kernel_rfl
open PySem.Builtin.Int (intBits) in
theorem to_bytes_tree {M : Model} {A : Around} {E : Value → Shared → Prop} {s : Shared} {x : Int} {n : Nat} {t u v : Tok} {P : Fin → Shared → Prop} (hn : n ≤ 16777216) (hb : intBits (if x < 0 then -x - 1 else x) + 1 ≤ 8 * n)
    (h : P (.done (.ret (.bytes (KTBy.low x n).toArray s.toks))) { s with toks := s.toks + 1 }) :
    wpAny M A (Builtin.«int.to_bytes» ⟨[.int x t, .int (n : Int) u], [("byteorder", .str "little" v), ("signed", .bool true)]⟩) P E s := by
  show wpAny _ _ (Builtin.Int.intOfSelf (.int x t) >>= fun y => _) _ _ s
  refine wpAny_bind (wpAny_of_eq (a := x) rfl ?_)
  show wpAny _ _ (Builtin.Int.intBindNamed "to_bytes" ["length", "byteorder", "signed"] 0 2 [.int (n : Int) u] [("byteorder", .str "little" v), ("signed", .bool true)] >>= fun l => _) _ _ s
  refine wpAny_bind (wpAny_of_eq (a := [some (.int (n : Int) u), some (.str "little" v), some (.bool true)]) (by kernel_rfl) ?_)
  show wpAny _ _ (Builtin.Int.intIndex "int.to_bytes" (.int (n : Int) u) >>= fun n => _) _ _ s
  refine wpAny_bind (wpAny_of_eq (a := (n : Int)) rfl ?_)
  refine KTBy.if_not (by show (decide ((n : Int) < -(2 ^ 63 : Int)) || decide ((n : Int) ≥ 2 ^ 63)) = false; rw [decide_eq_false (show ¬ ((n : Int) < -(2 ^ 63 : Int)) by omega), decide_eq_false (show ¬ ((n : Int) ≥ 2 ^ 63) by omega)]; rfl) ?_
  refine wpAny_bind (wpAny_of_eq (a := PySem.Str.ofString "little") (by kernel_rfl) ?_)
  refine wpAny_bind (wpAny_truthy_bool ?_)
  refine wpAny_bind (wpAny_of_eq (a := true) (by kernel_rfl) ?_)
  refine wpAny_ite_false (decide_eq_false (show ¬ ((n : Int) < 0) by omega)) ?_
  refine wpAny_ite_false (decide_eq_false (show ¬ ((n : Int) > 2 ^ 63 - 1 - 33) by omega)) ?_
  refine wpAny_ite_false (decide_eq_false (show ¬ ((n : Int) > (sizeLine : Int)) by rw [sizeLine_eq]; omega)) ?_
  refine KTBy.if_not (by show (decide (x < 0) && !true) = false; rw [Bool.not_true, Bool.and_false]) ?_
  refine KTBy.if_not (by show (_ && decide (((intBits (if x < 0 then -x - 1 else x) : Int) + 1) > 8 * (n : Int))) = false; rw [decide_eq_false (by omega), Bool.and_false]) ?_
  refine wpAny_bind (wpAny_mkBytes (wpAny_pure ?_) (by show (KTBy.low x (Int.toNat (n : Int))).length ≤ sizeLine; rw [KTBy.low_length, Int.toNat_natCast, sizeLine_eq]; omega))
  exact h

theorem Ev.toBytes {e en : Expr} {apos pos p1 p2 q1 q2 : Pos} {n1 n2 : Nat} {x : Int} {n : Nat} (h : Ev c m k e (.int x)) (h2 : Ev c m k en (.int (n : Int))) (hn : n ≤ 16777216) (hb : Builtin.Int.intBits (if x < 0 then -x - 1 else x) + 1 ≤ 8 * n)
    (hs : starEach [en] c.env = [(false, eval en c.env)])
    (he : ∃ pl : Sem Bool, eval (.Call (.Attribute e "to_bytes" apos) [en] [⟨some "byteorder", .Constant (.str "little") n1 p1, q1⟩, ⟨some "signed", .Constant (.bool true) n2 p2, q2⟩] pos) c.env = (do
      let ov ← eval e c.env
      standAt apos.atName
      let (f, first) ← holding [ov] (getMethod ov "to_bytes" pl)
      callWith pos f first (backTo pos (starEach [en] c.env)) (backToKw pos (keywordEach [⟨some "byteorder", .Constant (.str "little") n1 p1, q1⟩, ⟨some "signed", .Constant (.bool true) n2 p2, q2⟩] c.env)))) :
    Ev c m k (.Call (.Attribute e "to_bytes" apos) [en] [⟨some "byteorder", .Constant (.str "little") n1 p1, q1⟩, ⟨some "signed", .Constant (.bool true) n2 p2, q2⟩] pos) (.bytes (KTBy.low x n)) := by
  intro s a S Q E hQ
  obtain ⟨pl, he⟩ := he
  refine methodCall_KW (pl := pl) (h s a S _ E fun u s1 K1 r1 => ?_) he
  obtain ⟨t, rfl⟩ := rep_int r1
  refine KTBy.method ?_
  have hb1 : backTo pos (starEach [en] c.env) = [(false, eval en c.env)] := by rw [hs]; rfl
  refine callWith_builtin_kwB (by rw [hb1]; rfl) (by rfl) ?_
  rw [hb1]
  refine evalArgs_kwB (by rfl) (Calls.spliced_cons (h2 s1 a (S.keeps K1) _ E fun u s2 K2 r2 => Calls.spliced_nil ?_))
  obtain ⟨t', rfl⟩ := rep_int r2
  refine kws_cons (wpAny_mkText (kws_cons (Constant_bool (kws_nil ?_))))
  show wpAny _ _ (PySem.call (.builtin "int.to_bytes") [.int x t, .int (n : Int) t'] [("byteorder", .str "little" s2.toks), ("signed", .bool true)]) _ _ _
  refine wpAny_call_entry_kw KTBy.slot (typeIs_int _ x t) KTBy.entry (to_bytes_tree hn hb ⟨_, rfl, hQ _ _ (ktrans (ktrans K1 K2) (ktoks s2 _)) (.bytes _ _)⟩) (args_tb _ _ _ _)

/-! ## int.from_bytes -/
theorem fb_find : findCls [] (.type "int") (.type "type") (PySem.Str.ofString "from_bytes") = some (.get (.builtin "classmethod_descriptor.__get__") (.builtin "int.from_bytes") .none (.type "int")) := by kernel_rfl
theorem fb_method {s : Shared} {pl : Sem Bool} {Q : Value × List Value → Shared → Prop} {E : Value → Shared → Prop} {prog : Program} {w : World} {A : Around}
    (h : Q (.ref s.heap.objs.size, []) { s with heap := s.heap.push KFB.bound, toks := s.toks + 1 }) : wpAny (model prog w) A (getMethod (.type "int") (PySem.Str.ofString "from_bytes") pl) Q E s := by
  have X : Frag.In [] s.heap := fun a o e => by cases e
  have hstub : opaqueClassAbove (.type "int") = pure none := by unfold opaqueClassAbove; dsimp only; rw [show Manifest.isStub "int" = false by decide +kernel]; rfl
  have ht : typeOf (.type "int") = pure (.type "type") := by first | rfl | kernel_rfl
  have L0 : Looks (model prog w) s.heap (typeOf (.type "int")) (.type "type") := Looks.of_pure ht
  unfold getMethod specialOf
  refine wpAny_bind (wpAny_bind (L0.here ((looks_findIn X type_tga).here ?_)))
  dsimp only
  rw [if_pos canon_tga]
  refine wpAny_bind (wpAny_mono (Q := fun v => Q (v, [])) (E := E) ?_ (fun _ _ z => wpAny_pure z) fun _ _ z => z)
  refine cls_open X (Looks.of_pure hstub) L0 type_tga (looks_hook X (r := none) (by rfl)) (by rfl) fb_find ?_
  show wpAny _ _ (holding [.builtin "int.from_bytes"] (call (.builtin "classmethod_descriptor.__get__") [.builtin "int.from_bytes", .none, .type "int"]) >>= fun v => ret v) _ _ _
  exact wpAny_bind (wpAny_holding (wpAny_call_entry KFB.slot_get KFB.type_fb KFB.entry_get (KFB.run_get ⟨_, rfl, wpAny_pure (wpAny_pure h)⟩) (KFB.args_get _ _ _)))

/-- the value of octets, lowest first, by a fold from behind -/
def foldV (b : List UInt8) : Int := b.reverse.foldl (fun (acc : Int) (x : UInt8) => acc * 256 + (x.toNat : Int)) 0
def decV (b : List UInt8) : Int := if b.reverse.head?.any (· ≥ 128) = true then foldV b - 256 ^ b.length else foldV b
theorem fb_tree {M : Model} {A : Around} {E : Value → Shared → Prop} {s : Shared} {b : List UInt8} {t v : Tok} {P : Fin → Shared → Prop} (hb : ¬ (decV b).natAbs.log2 ≥ bitsLine)
    (h : P (.done (.ret (.int (decV b) s.toks))) { s with toks := s.toks + 1 }) :
    wpAny M A (Builtin.«int.from_bytes» ⟨[.type "int", .bytes b.toArray t], [("byteorder", .str "little" v), ("signed", .bool true)]⟩) P E s := by
  unfold Builtin.«int.from_bytes»
  refine wpAny_bind (wpAny_of_eq (a := true) KFB.type_int ?_)
  refine KFB.if_not rfl ?_
  refine wpAny_bind (wpAny_of_eq (a := true) PySem.F.conv_sub_int ?_)
  refine KFB.if_not rfl ?_
  refine wpAny_bind (wpAny_of_eq (a := [some (.bytes b.toArray t), some (.str "little" v), some (.bool true)]) (by kernel_rfl) ?_)
  refine wpAny_bind (wpAny_of_eq (a := PySem.Str.ofString "little") (by kernel_rfl) ?_)
  refine wpAny_bind (wpAny_truthy_bool ?_)
  refine wpAny_bind (wpAny_of_eq (a := true) (by kernel_rfl) ?_)
  refine wpAny_bind (wpAny_of_eq (a := b.toArray) rfl ?_)
  show wpAny _ _ (mkIntGrown (if (true && b.reverse.head?.any (· ≥ 128)) = true then foldV b - 256 ^ b.reverse.length else foldV b) >>= fun v => _) _ _ _
  rw [Bool.true_and, List.length_reverse]
  show wpAny _ _ (mkIntGrown (decV b) >>= fun v => _) _ _ _
  refine wpAny_bind ?_
  unfold mkIntGrown
  rw [if_neg hb]
  refine wpAny_mkInt ?_
  refine KFB.if_so (by decide +kernel) ?_
  exact wpAny_bind (wpAny_pure (wpAny_pure h))

theorem fb_callWith {M : Model} {A : Around} {E : Value → Shared → Prop} {s : Shared} {pos : Pos} {u : Addr} {args : List (Bool × Sem Value)} {kws : List (Option PySem.Str × Sem Value)} {Q : Value → Shared → Prop} (hplain : args.any (·.1) = false) (hkw : kws.any (·.1.isNone) = false)
    (h : wpAny M A (evalArgs (.ref u) true args kws) (fun x s₁ => KFB.StandsAt u s₁.heap ∧ wpAny M A (call (.ref u) ([] ++ x.pos) x.kw) Q E s₁) E s) : wpAny M A (callWith pos (.ref u) [] args kws) Q E s := by
  unfold callWith
  refine wpAny_bind (wpAny_holding (wpAny_mono h (fun x s₁ h₁ => wpAny_bind (wpAny_standAt ?_)) fun _ _ x => x))
  obtain ⟨ho, hcall⟩ := h₁
  simp only [hplain, hkw, Bool.or_false]
  refine wpAny_bind (m := keeperOf (.ref u)) ?_
  unfold keeperOf
  refine wpAny_bind (wpAny_load ho ?_)
  simp only [KFB.bound, show (Value.type "builtin_function_or_method" != Value.type "method") = true by decide, show (Value.type "builtin_function_or_method" == Value.type "builtin_function_or_method" || Value.type "builtin_function_or_method" == Value.type "method-wrapper") = true by decide, if_true]
  refine wpAny_pure ?_
  exact wpAny_bind (wpAny_mono hcall (fun r s₂ hr => wpAny_bind (wpAny_holding (wpAny_point (wpAny_pure hr)))) fun _ _ x => x)
theorem fb_check {b : Array UInt8} {t v : Tok} : checkBoundCall "int.from_bytes" ⟨[.type "int", .bytes b t], [("byteorder", .str "little" v), ("signed", .bool true)]⟩ = pure () := by first | kernel_rfl | rfl
theorem fb_call {prog : Program} {w : World} {A : Around} {E : Value → Shared → Prop} {s : Shared} {x : Addr} {b : List UInt8} {t v : Tok} {Q : Value → Shared → Prop} (ho : KFB.StandsAt x s.heap) (hb : ¬ (decV b).natAbs.log2 ≥ bitsLine)
    (h : Q (.int (decV b) s.toks) { s with toks := s.toks + 1 }) : wpAny (model prog w) A (call (.ref x) [.bytes b.toArray t] [("byteorder", .str "little" v), ("signed", .bool true)]) Q E s := by
  refine wpAny_call (codeAny_of_tree ?_)
  show wpAny _ A.in1 (callAny (.ref x) ⟨[.bytes b.toArray t], [("byteorder", .str "little" v), ("signed", .bool true)]⟩) _ _ s
  simp only [callAny]
  refine wpAny_bind (wpAny_load ho ?_)
  simp only [KFB.bound, show (Value.type "builtin_function_or_method" == Value.type "method" || Value.type "builtin_function_or_method" == Value.type "builtin_function_or_method" || Value.type "builtin_function_or_method" == Value.type "method-wrapper") = true by decide, if_true]
  refine KFB.if_so (by decide) ?_
  refine wpAny_bind (wpAny_of_eq (a := ()) fb_check ?_)
  refine wpAny_bind (wpAny_pure (wpAny_pure ?_))
  exact ⟨KFB.quiet_fb, codeAny_builtin KFB.entry_fb (fb_tree hb h)⟩

theorem Ev.fromBytes {e : Expr} {np apos pos p1 p2 q1 q2 : Pos} {n1 n2 : Nat} {b : List UInt8} (h : Ev c m k e (.bytes b)) (hb : ¬ (decV b).natAbs.log2 ≥ bitsLine)
    (hk : c.env.kindOf "int" = some .globalImplicit) (hs : starEach [e] c.env = [(false, eval e c.env)])
    (he : ∃ pl : Sem Bool, eval (.Call (.Attribute (.Name "int" np) "from_bytes" apos) [e] [⟨some "byteorder", .Constant (.str "little") n1 p1, q1⟩, ⟨some "signed", .Constant (.bool true) n2 p2, q2⟩] pos) c.env = (do
      let ov ← eval (.Name "int" np) c.env
      standAt apos.atName
      let (f, first) ← holding [ov] (getMethod ov "from_bytes" pl)
      callWith pos f first (backTo pos (starEach [e] c.env)) (backToKw pos (keywordEach [⟨some "byteorder", .Constant (.str "little") n1 p1, q1⟩, ⟨some "signed", .Constant (.bool true) n2 p2, q2⟩] c.env)))) :
    Ev c m k (.Call (.Attribute (.Name "int" np) "from_bytes" apos) [e] [⟨some "byteorder", .Constant (.str "little") n1 p1, q1⟩, ⟨some "signed", .Constant (.bool true) n2 p2, q2⟩] pos) (.int (decV b)) := by
  intro s a S Q E hQ
  obtain ⟨pl, he⟩ := he
  refine methodCall_KW (pl := pl) (ld_free S.in (by simp) boot_int hk ?_) he
  refine fb_method ?_
  have K0 : Keeps s { s with heap := s.heap.push KFB.bound, toks := s.toks + 1 } := kmk fun b o e => Heap.get?_push_of_some _ e
  have hb1 : backTo pos (starEach [e] c.env) = [(false, eval e c.env)] := by rw [hs]; rfl
  refine fb_callWith (by rw [hb1]; rfl) (by rfl) ?_
  rw [hb1]
  refine evalArgs_kwB (by rfl) (Calls.spliced_cons (h _ a (S.keeps K0) _ E fun u s2 K2 r2 => Calls.spliced_nil ?_))
  obtain ⟨t, rfl⟩ := rep_bytes r2
  refine kws_cons (wpAny_mkText (kws_cons (Constant_bool (kws_nil ?_))))
  have hst : KFB.StandsAt s.heap.objs.size s2.heap := by
    obtain ⟨h', tk, rfl, hk'⟩ := K2
    exact hk' _ _ (Heap.get?_push_size _ rfl)
  refine ⟨hst, ?_⟩
  show wpAny _ _ (PySem.call (.ref s.heap.objs.size) [.bytes b.toArray t] [("byteorder", .str "little" s2.toks), ("signed", .bool true)]) _ _ _
  exact fb_call hst hb (hQ _ _ (ktrans (ktrans K0 K2) (ktoks s2 _)) (.int _ _))
end Mine

set_option maxRecDepth 100000
set_option linter.unusedVariables false
namespace Mine
open PySem PySem.W PyProof.Rows PySem.Calls

/-! ## from the head to the law's own body -/
def fnsOf (p : Program) : List Fn := p.main.body.filterMap fun
  | .FunctionDef name args body _ _ _ scope _ _ _ => some ⟨name, args, body, scope⟩
  | _ => none
def toFn (d : DefRec) : Fn := ⟨d.name, d.params, d.body, d.scope⟩
theorem base_of {p : Program} {loose : List PySem.Str} {mean : ExcName → Option Value} {mg mb : PySem.Str → Option Value} {h : Heap} (T : Top p loose mean mg mb h) (hs : h.NoSeer)
    (hf : (["len", "range", "bytes", "type", "int", "sum", "abs", "divmod", "max"] : List PySem.Str).all (fun x => !startupNames.contains x && !loose.contains x && !((recsOf p).map (·.name)).contains x && !((litsOf p).map (·.1)).contains x && !((clssOf p loose).map (·.name)).contains x) = true) :
    Base mg mb ((recsOf p).map toFn) h where
  g := T.g
  b := T.b
  nolimit := T.nolimit
  seer := hs
  boot := T.builtins
  fn := fun d hd => by
    obtain ⟨r, hr, rfl⟩ := List.mem_map.mp hd
    exact T.fn r hr
  free := fun x hx => by
    have q := List.all_eq_true.mp hf x hx
    simp only [Bool.and_eq_true, Bool.not_eq_true', List.contains_eq_mem, decide_eq_false_iff_not] at q
    exact T.free x q.1.1.1.1 q.1.1.1.2 q.1.1.2 q.1.2 q.2

theorem enter {prog : Program} {w : World} {s₁ : Shared} {h₁ : Heap} {tk : Nat} {mg mb : PySem.Str → Option Value} {d : Fn} {fa l : Addr} {cd : Value} {vs : List Value} {ns : List Int} {n : Nat} {fns : List Fn} {E : Value → Shared → Prop}
    (B : Base mg mb fns s₁.heap) (hl : IsL s₁.heap l vs.toArray n) (hi : IntsAre vs ns) (ht : prog.given.tree = none) (hC : Callable d 1)
    (F : Fr s₁.heap s₁.heap.objs.size h₁ (fun x => ((d.params.args.map (·.arg)).zip [.ref l]).reverse.lookup x)) (H : Spec fns 50 d [IL ns] (.bool true)) :
    wpAny (model prog w) (callerA.deeper (envOf d.name d.scope s₁.heap.objs.size fa cd)) (execs d.body (envOf d.name d.scope s₁.heap.objs.size fa cd))
      (fun f s' => f = .ret (.bool true) ∧ (∃ mv, Fr s₁.heap s₁.heap.objs.size s'.heap mv) ∧ s'.gens = s₁.gens ∧ s'.os = s₁.os) E { s₁ with heap := h₁, toks := tk } := by
  let c : Fx := {
    prog := prog, w := w, A := callerA.deeper (envOf d.name d.scope s₁.heap.objs.size fa cd), env := envOf d.name d.scope s₁.heap.objs.size fa cd, h₀ := s₁.heap, mg := mg, mb := mb, fns := fns, lv := 50
    kind := hC.kind, glob := rfl, blt := rfl, handled := rfl
    depth := by show 1 + claimMargin + 1 + 50 < 400; decide
    units := by show 4 + 3 + 10 * 50 < 3000; decide
    tree := ht
    frames := ⟨_, [], rfl, hC.gen, hC.co, rfl, rfl⟩
    base := B
    ban := fun _ => False
    banned := fun _ h => h.elim }
  have S : St c (bindsOf d [IL ns]) none 0 { s₁ with heap := h₁, toks := tk } := by
    refine ⟨_, F, fun x w e => ?_, fun x e => by cases e⟩
    have hr : RepAll h₁ (okC c none 0) [.ref l] [IL ns] := by
      refine .cons (.list (n := n) ⟨fun q => q, fun q => by cases q⟩ (F.keep _ _ hl) ?_) .nil
      have : ∀ {vs : List Value} {ns : List Int}, IntsAre vs ns → RepAll h₁ (okC c none 0) vs (ns.map PV.int) := by
        intro vs ns h
        induction h with
        | nil => exact .nil
        | cons n t _ ih => exact .cons (.int _ _) ih
      exact this hi
    obtain ⟨u, q1, q2⟩ := lookup_rep_rev x (by rw [hC.len]; rfl) hr e
    exact ⟨u, q1, by rw [if_neg (by simp)]; exact q2⟩
  refine wpAny_mono (H c rfl (Nat.le_refl _) ⟨_, _, _, rfl⟩ _ 0 E S) ?_ fun _ _ e => e
  rintro f s2 ⟨r, m2, k2, a2, hfl, S2, X, rfl⟩
  obtain ⟨h2, t2, rfl⟩ := X.same
  obtain ⟨mv, F2, _, _⟩ := S2.ex
  cases hfl with
  | ret hr => exact ⟨by rw [rep_bool hr], ⟨mv, F2⟩, rfl, rfl⟩

theorem isL_of {h : Heap} {a : Addr} {vs' vs : List Value} (hl : h.get? a = some { cls := .type "list", data := .seq vs'.toArray }) (hI : h.IsList a vs.toArray) : IsL h a vs.toArray 0 := by
  obtain ⟨o, ho, hc, n, hd⟩ := hI
  rw [hl] at ho
  rw [← Option.some.inj ho] at hd
  injection hd with h1 h2
  rw [← h1]; exact hl
end Mine

set_option maxRecDepth 100000
set_option linter.unusedVariables false
namespace Mine
open PySem PySem.W
open PySem.Builtin.Int (intBits)

/-! ## octets and ints -/
/-- the n lowest octets of x, lowest first -/
def le : Nat → Int → List UInt8
  | 0, _ => []
  | n + 1, x => (x % 256).toNat.toUInt8 :: le n (x / 256)
theorem le_length : ∀ (n : Nat) (x : Int), (le n x).length = n
  | 0, _ => rfl
  | n + 1, x => by simp [le, le_length n]
theorem toU8 {z : Int} (h0 : 0 ≤ z) (h1 : z < 256) : ((z.toNat.toUInt8).toNat : Int) = z := by
  have : z.toNat.toUInt8.toNat = z.toNat % 256 := by
    show (UInt8.ofNat z.toNat).toNat = _
    rw [UInt8.toNat_ofNat']
  omega
theorem u8_lt (b : UInt8) : b.toNat < 256 := b.toNat_lt
theorem u8_back (b : UInt8) : (b.toNat : Int).toNat.toUInt8 = b := by
  rw [Int.toNat_natCast]
  show UInt8.ofNat b.toNat = b
  exact UInt8.ofNat_toNat

/-- the value of octets, lowest first, without a sign -/
def uval : List UInt8 → Int
  | [] => 0
  | b :: r => (b.toNat : Int) + 256 * uval r
/-- is the highest bit set? -/
def neg (b : List UInt8) : Bool := b.getLast?.any (· ≥ 128)
/-- the value with a sign -/
def dec (b : List UInt8) : Int := if neg b = true then uval b - 256 ^ b.length else uval b

theorem pow_pos (n : Nat) : (0 : Int) < 256 ^ n := Int.pow_pos (by decide)
theorem pow_succ (n : Nat) : (256 : Int) ^ (n + 1) = 256 * 256 ^ n := by rw [Int.pow_succ, Int.mul_comm]
theorem uval_bound : ∀ b : List UInt8, 0 ≤ uval b ∧ uval b < 256 ^ b.length
  | [] => by simp [uval]
  | b :: r => by
    have ih := uval_bound r
    have h1 := u8_lt b
    have h2 := pow_succ r.length
    simp only [uval, List.length_cons]
    omega
theorem uval_append : ∀ a b : List UInt8, uval (a ++ b) = uval a + 256 ^ a.length * uval b
  | [], b => by simp [uval]
  | x :: a, b => by
    have ih := uval_append a b
    simp only [List.cons_append, uval, ih, List.length_cons, pow_succ]
    rw [Int.mul_add, Int.mul_assoc]; omega
theorem uval_le : ∀ (n : Nat) (x : Int), uval (le n x) = x % 256 ^ n
  | 0, x => by simp [le, uval, Int.emod_one]
  | n + 1, x => by
    have ih := uval_le n (x / 256)
    simp only [le, uval, ih]
    rw [toU8 (by omega) (by omega), pow_succ]
    have hp := pow_pos n
    -- x = x%256 + 256*(x/256); x/256 = r + 256^n*q
    have e1 : x = x % 256 + 256 * (x / 256) := by omega
    have e2 := Int.emod_add_mul_ediv (x / 256) (256 ^ n)
    have hr := Int.emod_nonneg (x / 256) (Int.ne_of_gt hp)
    have hr2 := Int.emod_lt_of_pos (x / 256) hp
    generalize hR : x / 256 % 256 ^ n = R at *
    generalize hQ : x / 256 / 256 ^ n = Qq at *
    have e3 : x = (x % 256 + 256 * R) + 256 * 256 ^ n * Qq := by
      rw [Int.mul_assoc]; omega
    have : x % (256 * 256 ^ n) = x % 256 + 256 * R := by
      rw [e3, Int.add_mul_emod_self_left]
      rw [Int.emod_eq_of_lt]
      · omega
      · omega
      · omega
    omega
theorem uval_inj : ∀ {a b : List UInt8}, a.length = b.length → uval a = uval b → a = b
  | [], [], _, _ => rfl
  | [], _ :: _, h, _ => by simp at h
  | _ :: _, [], h, _ => by simp at h
  | x :: a, y :: b, h, e => by
    simp only [uval] at e
    have h1 := u8_lt x
    have h2 := u8_lt y
    have e1 : x.toNat = y.toNat := by omega
    have e2 : uval a = uval b := by omega
    rw [UInt8.toNat_inj.mp e1, uval_inj (by simpa using h) e2]

/-- x stands in n octets with a sign -/
def Fits (x : Int) (n : Nat) : Prop := -256 ^ n ≤ 2 * x ∧ 2 * x < 256 ^ n
theorem neg_iff : ∀ (b : List UInt8), b ≠ [] → (neg b = true ↔ 256 ^ b.length ≤ 2 * uval b)
  | [], h => absurd rfl h
  | [x], _ => by
    have h1 := u8_lt x
    simp only [neg, List.getLast?_singleton, Option.any_some, decide_eq_true_eq, uval, List.length_singleton]
    have : x ≥ 128 ↔ 128 ≤ x.toNat := by rw [ge_iff_le, UInt8.le_iff_toNat_le]; rfl
    rw [this]
    omega
  | x :: y :: r, _ => by
    have ih := neg_iff (y :: r) (by simp)
    have h1 := u8_lt x
    have e : neg (x :: y :: r) = neg (y :: r) := by simp [neg]
    rw [e, ih]
    simp only [uval, List.length_cons, pow_succ]
    omega
theorem neg_nil : neg [] = false := rfl
theorem dec_fits (b : List UInt8) : Fits (dec b) b.length := by
  have h := uval_bound b
  unfold Fits dec
  by_cases hb : b = []
  · subst hb; simp [neg, uval]
  · have hn := neg_iff b hb
    split
    · rename_i q; have := hn.mp q; omega
    · rename_i q
      have : ¬ 256 ^ b.length ≤ 2 * uval b := fun z => q (hn.mpr z)
      have hp := pow_pos b.length
      omega
theorem dec_mod (b : List UInt8) : dec b % 256 ^ b.length = uval b := by
  have h := uval_bound b
  unfold dec
  split
  · rw [Int.sub_emod_right]; exact Int.emod_eq_of_lt h.1 h.2
  · exact Int.emod_eq_of_lt h.1 h.2
theorem le_dec (b : List UInt8) : le b.length (dec b) = b := uval_inj (le_length _ _) (by rw [uval_le, dec_mod])
theorem dec_le {x : Int} {n : Nat} (h : Fits x n) : dec (le n x) = x := by
  have hp := pow_pos n
  obtain ⟨h1, h2⟩ := h
  unfold dec
  rw [le_length, uval_le]
  by_cases hb : le n x = []
  · have hn : n = 0 := by rw [← le_length n x, hb]; rfl
    subst hn
    simp at h1 h2
    have : x = 0 := by omega
    subst this
    simp [le, neg]
  · have hn := neg_iff _ hb
    rw [le_length, uval_le] at hn
    by_cases hx : 0 ≤ x
    · have e : x % 256 ^ n = x := Int.emod_eq_of_lt hx (by omega)
      rw [e] at hn ⊢
      rw [if_neg]
      intro q; have := hn.mp q; omega
    · have e : x % 256 ^ n = x + 256 ^ n := by
        rw [← Int.add_emod_right]; exact Int.emod_eq_of_lt (by omega) (by omega)
      rw [e] at hn ⊢
      rw [if_pos (hn.mpr (by omega))]; omega
/-- as many octets as it takes, at least -/
def Least (x : Int) (n : Nat) : Prop := Fits x n ∧ (n = 0 ∨ ¬ Fits x (n - 1))
theorem Fits.mono {x : Int} {n : Nat} (h : Fits x n) : ∀ d, Fits x (n + d)
  | 0 => h
  | d + 1 => by
    have ih := Fits.mono h d
    have hp := pow_pos (n + d)
    have e := pow_succ (n + d)
    unfold Fits at ih ⊢
    rw [← Nat.add_assoc]
    omega
theorem Least.unique {x : Int} {n n' : Nat} (h : Least x n) (h' : Least x n') : n = n' := by
  rcases Nat.lt_trichotomy n n' with q | q | q
  · exfalso
    rcases h'.2 with z | z
    · omega
    · obtain ⟨d, hd⟩ := Nat.exists_eq_add_of_le (show n ≤ n' - 1 by omega)
      exact z (hd ▸ h.1.mono d)
  · exact q
  · exfalso
    rcases h.2 with z | z
    · omega
    · obtain ⟨d, hd⟩ := Nat.exists_eq_add_of_le (show n' ≤ n - 1 by omega)
      exact z (hd ▸ h'.1.mono d)
end Mine

set_option maxRecDepth 100000
set_option linter.unusedVariables false
namespace Mine
open PySem PySem.W
open PySem.Builtin.Int (intBits)

theorem foldV_cons (x : UInt8) (r : List UInt8) : foldV (x :: r) = foldV r * 256 + (x.toNat : Int) := by
  simp [foldV]
theorem foldV_eq : ∀ b : List UInt8, foldV b = uval b
  | [] => rfl
  | x :: r => by rw [foldV_cons, foldV_eq r]; simp only [uval]; omega
theorem decV_eq (b : List UInt8) : decV b = dec b := by
  unfold decV dec neg
  rw [foldV_eq, List.head?_reverse]

theorem le_get : ∀ (n : Nat) (x : Int) (i : Nat), i < n → (le n x)[i]? = some ((x / 256 ^ i % 256).toNat.toUInt8)
  | 0, _, _, h => by omega
  | n + 1, x, 0, _ => by simp [le]
  | n + 1, x, i + 1, h => by
    simp only [le, List.getElem?_cons_succ]
    rw [le_get n (x / 256) i (by omega)]
    have e : x / 256 / 256 ^ i = x / 256 ^ (i + 1) := by
      rw [pow_succ, Int.ediv_ediv_of_nonneg (by decide)]
    rw [e]
theorem ediv_small {x p : Int} (hp : 0 < p) (h : -p ≤ x ∧ x < p) : x / p = if x < 0 then -1 else 0 := by
  split
  · rename_i hx
    have e : (x + p) / p = 0 := Int.ediv_eq_zero_of_lt (by omega) (by omega)
    have e2 : (x + p) / p = x / p + 1 := by
      have := Int.add_mul_ediv_right x 1 (Int.ne_of_gt hp)
      rw [Int.one_mul] at this; exact this
    omega
  · exact Int.ediv_eq_zero_of_lt (by omega) (by omega)
theorem two_pow_8 (n : Nat) : (2 : Nat) ^ (8 * n) = 256 ^ n := by rw [Nat.pow_mul]
theorem natAbs_lt_of_bits {x : Int} {n : Nat} (h : intBits x ≤ 8 * n) : x.natAbs < 256 ^ n := by
  have := intBits_le_iff.mp h
  rwa [two_pow_8] at this
theorem cast_pow (n : Nat) : ((256 ^ n : Nat) : Int) = 256 ^ n := by rw [Int.natCast_pow]; rfl

theorem low_eq (x : Int) (n : Nat) : KTBy.low x n = le n x := by
  refine List.ext_getElem? fun i => ?_
  by_cases hi : i < n
  · rw [le_get n x i hi]
    unfold KTBy.low
    generalize ho : min n (intBits x / 8 + 1) = own
    by_cases hio : i < own
    · rw [List.getElem?_append_left (by simpa using hio), List.getElem?_map, List.getElem?_range hio]
      simp only [Option.map_some, Option.some.injEq]
      have hp := pow_pos own
      have h0 := Int.emod_nonneg x (Int.ne_of_gt hp)
      have e1 : (((x % 256 ^ own).toNat >>> (8 * i)) % 256) = (x / 256 ^ i % 256).toNat := by
        have e2 : (2 : Nat) ^ (8 * i) = 256 ^ i := two_pow_8 i
        rw [Nat.shiftRight_eq_div_pow, e2]
        apply Int.natCast_inj.mp
        rw [Int.natCast_emod, Int.natCast_ediv, Int.toNat_of_nonneg h0, Int.natCast_pow]
        have h3 : 0 ≤ x / 256 ^ i % 256 := by omega
        rw [Int.toNat_of_nonneg h3]
        show x % 256 ^ own / 256 ^ i % 256 = x / 256 ^ i % 256
        -- x % 256^own = x - 256^own * q, 256^own = 256^i * 256 * 256^(own-i-1)
        obtain ⟨d, rfl⟩ := Nat.exists_eq_add_of_lt hio
        have hpi := pow_pos i
        have e5 : (256 : Int) ^ (i + d + 1) = 256 ^ i * (256 * 256 ^ d) := by
          rw [show i + d + 1 = i + (d + 1) by omega, Int.pow_add, pow_succ]
        have e6 : x % 256 ^ (i + d + 1) = x - 256 ^ i * (256 * 256 ^ d * (x / 256 ^ (i + d + 1))) := by
          have := Int.emod_def x (256 ^ (i + d + 1))
          rw [this]
          congr 1
          rw [e5, Int.mul_assoc]
        rw [e6, Int.sub_mul_ediv_left _ _ (Int.ne_of_gt hpi)]
        rw [Int.mul_assoc]
        omega
      rw [e1]
    · have hown : own = intBits x / 8 + 1 := by omega
      rw [List.getElem?_append_right (by simpa using Nat.le_of_not_lt hio), List.getElem?_replicate]
      simp only [List.length_map, List.length_range]
      rw [if_pos (by omega)]
      have hb : intBits x ≤ 8 * own := by omega
      have hx := natAbs_lt_of_bits hb
      have hx2 : x.natAbs < 256 ^ i := Nat.lt_of_lt_of_le hx (Nat.pow_le_pow_right (by decide) (Nat.le_of_not_lt hio))
      have hx3 : (x.natAbs : Int) < 256 ^ i := by rw [← cast_pow]; exact Int.ofNat_lt.mpr hx2
      rw [ediv_small (pow_pos i) (by omega)]
      split <;> rfl
  · rw [List.getElem?_eq_none (by rw [KTBy.low_length]; omega), List.getElem?_eq_none (by rw [le_length]; omega)]

/-- how many octets the text's encode_long gives -/
def wid (x : Int) : Nat := if x = 0 then 0 else if x < 0 ∧ 1 ≤ intBits x / 8 ∧ -256 ^ (intBits x / 8) ≤ 2 * x then intBits x / 8 else intBits x / 8 + 1
def enc (x : Int) : List UInt8 := le (wid x) x

theorem bits_low {x : Int} (hx : x ≠ 0) : 2 ^ (intBits x - 1) ≤ x.natAbs := by
  have h1 : 1 ≤ intBits x := by
    rcases Nat.eq_zero_or_pos (intBits x) with q | q
    · have := intBits_le_iff (m := 0) (x := x) |>.mp (by omega)
      simp at this; omega
    · exact q
  have h2 : ¬ intBits x ≤ intBits x - 1 := by omega
  exact Nat.le_of_not_lt fun z => h2 (intBits_le_iff.mpr z)
theorem bits_pos {x : Int} (hx : x ≠ 0) : 1 ≤ intBits x := by
  rcases Nat.eq_zero_or_pos (intBits x) with q | q
  · have := intBits_le_iff (m := 0) (x := x) |>.mp (by omega)
    simp at this; omega
  · exact q
theorem abs_hi (x : Int) : 2 * (x.natAbs : Int) < 256 ^ (intBits x / 8 + 1) := by
  have h : intBits x ≤ 8 * (intBits x / 8) + 7 := by omega
  have h1 := intBits_le_iff.mp h
  have h2 : (2 : Nat) ^ (8 * (intBits x / 8) + 7) * 2 = 256 ^ (intBits x / 8 + 1) := by
    rw [← two_pow_8, ← Nat.pow_succ]; congr 1
  rw [← cast_pow]
  omega
theorem abs_lo {x : Int} (hx : x ≠ 0) : 256 ^ (intBits x / 8) ≤ 2 * (x.natAbs : Int) := by
  have h1 := bits_low hx
  have h0 := bits_pos hx
  have h2 : (2 : Nat) ^ (8 * (intBits x / 8)) ≤ 2 ^ (intBits x - 1) * 2 := by
    rw [← Nat.pow_succ]; exact Nat.pow_le_pow_right (by decide) (by omega)
  rw [two_pow_8] at h2
  rw [← cast_pow]
  omega
theorem wid_least (x : Int) : Least x (wid x) := by
  unfold wid
  by_cases hx : x = 0
  · rw [if_pos hx]; subst hx; exact ⟨by simp [Fits], .inl rfl⟩
  · rw [if_neg hx]
    have hhi := abs_hi x
    have hlo := abs_lo hx
    generalize intBits x / 8 = q at *
    have hq := pow_pos q
    have hq1 := pow_succ q
    split
    · rename_i h
      obtain ⟨h1, h2, h3⟩ := h
      obtain ⟨r, rfl⟩ := Nat.exists_eq_add_of_le' h2
      have hr := pow_pos r
      have hr1 := pow_succ r
      refine ⟨⟨h3, by omega⟩, .inr fun z => ?_⟩
      unfold Fits at z
      rw [Nat.add_sub_cancel] at z
      omega
    · rename_i h
      refine ⟨⟨by omega, by omega⟩, .inr fun z => ?_⟩
      unfold Fits at z
      rw [Nat.add_sub_cancel] at z
      by_cases hn : x < 0
      · rcases Nat.eq_zero_or_pos q with z0 | z0
        · subst z0; simp at z hlo; omega
        · exact h ⟨hn, z0, z.1⟩
      · omega
theorem enc_length (x : Int) : (enc x).length = wid x := le_length _ _
theorem dec_enc (x : Int) : dec (enc x) = x := dec_le (wid_least x).1
/-- what encode_long gives for what some octets say, if the octets are as few as it takes -/
theorem enc_dec {b : List UInt8} (h : b = [] ∨ ¬ Fits (dec b) (b.length - 1)) : enc (dec b) = b := by
  have hl : Least (dec b) b.length := ⟨dec_fits b, h.imp (fun e => by rw [e]; rfl) id⟩
  unfold enc
  rw [(wid_least _).unique hl, le_dec]
theorem enc_of {x : Int} {b : List UInt8} (hx : dec b = x) (h : b = [] ∨ ¬ Fits x (b.length - 1)) : enc x = b := by subst hx; exact enc_dec h
theorem wid_le (x : Int) {n : Nat} (h : intBits x ≤ 8 * n) : wid x ≤ n + 1 := by
  unfold wid
  split
  · omega
  · split <;> omega

theorem le_getD {n : Nat} {x : Int} {i : Nat} (h : i < n) : (((le n x).getD i 0).toNat : Int) = x / 256 ^ i % 256 := by
  rw [List.getD_eq_getElem?_getD, le_get n x i h, Option.getD_some, toU8 (by omega) (by omega)]
theorem le_take : ∀ (n i : Nat) (x : Int), i ≤ n → (le n x).take i = le i x
  | _, 0, _, _ => by simp [le]
  | 0, i + 1, _, h => by omega
  | n + 1, i + 1, x, h => by simp only [le, List.take_succ_cons]; rw [le_take n i _ (by omega)]
theorem top_test {x : Int} {q : Nat} (hx : x < 0) (hq : 1 ≤ q) (h : 2 * (x.natAbs : Int) < 256 ^ (q + 1)) :
    (((((le (q + 1) x).getD q 0).toNat : Int) == 255) && decide (128 ≤ ((le (q + 1) x).getD (q - 1) 0).toNat)) = decide (-256 ^ q ≤ 2 * x) := by
  obtain ⟨r, rfl⟩ := Nat.exists_eq_add_of_le' hq
  rw [Nat.add_sub_cancel]
  have h1 := le_getD (n := r + 1 + 1) (x := x) (i := r + 1) (by omega)
  have h2 := le_getD (n := r + 1 + 1) (x := x) (i := r) (by omega)
  generalize ((le (r + 1 + 1) x).getD (r + 1) 0).toNat = a at *
  generalize ((le (r + 1 + 1) x).getD r 0).toNat = b at *
  have hp := pow_pos r
  have e1 : x / 256 ^ (r + 1) = x / 256 ^ r / 256 := by rw [pow_succ, Int.mul_comm, Int.ediv_ediv_of_nonneg (Int.le_of_lt hp)]
  rw [e1] at h1
  have e2 : (256 : Int) ^ (r + 1) = 256 * 256 ^ r := pow_succ r
  have e3 : (256 : Int) ^ (r + 1 + 1) = 65536 * 256 ^ r := by rw [pow_succ, pow_succ]; omega
  have b1 : -32768 ≤ x / 256 ^ r := (Int.le_ediv_iff_mul_le hp).mpr (by omega)
  have b2 : x / 256 ^ r < 0 := Int.ediv_neg_of_neg_of_pos hx hp
  have b3 : -128 ≤ x / 256 ^ r ↔ -128 * 256 ^ r ≤ x := Int.le_ediv_iff_mul_le hp
  have b4 : (-256 ^ (r + 1) ≤ 2 * x) ↔ -128 ≤ x / 256 ^ r := by rw [b3, e2]; omega
  generalize x / 256 ^ r = B at *
  rw [Bool.eq_iff_iff]
  simp only [Bool.and_eq_true, beq_iff_eq, decide_eq_true_eq]
  rw [b4]
  omega
end Mine

set_option maxRecDepth 100000
set_option linter.unusedVariables false
namespace Mine
open PySem PySem.W PyProof.Rows PySem.Calls
variable {c : Fx} {m : Loc} {k : Option PySem.Str}

/-! ## more comparisons -/
theorem Cmp.notIn {x : Int} {l : List Int} : CmpOk c .NotIn (.int x) (.tup (l.map PV.int)) (!(l.any (· == x))) := by
  intro s u1 u2 I r1 r2 Q E hQ
  obtain ⟨t, rfl⟩ := rep_int r1
  obtain ⟨a, n, its, rfl, ha, hl, hr⟩ := rep_tup r2
  exact notin_tuple_ints ⟨_, hl, rfl, n, rfl⟩ (reps_ints hr) (hQ s (krefl s))

/-! ## tuples taken apart -/
theorem ext_fresh {s : Shared} {h' : Heap} (he : Heap.ExtBut s.heap.objs.size s.heap h') : ∀ b o, s.heap.get? b = some o → h'.get? b = some o :=
  fun b o e => he b o (Nat.ne_of_lt (Heap.lt_size e)) e
theorem St.off {a : Addr} {s s' : Shared} (S : St c m k a s) (k4 : ∀ b o, b ≠ c.env.locals → s.heap.get? b = some o → s'.heap.get? b = some o) {u : Value} {v : PV} (r : Rep s.heap (okC c k a) u v) : Rep s'.heap (okC c k a) u v := by
  obtain ⟨mv, F, _, _⟩ := S.ex
  obtain ⟨oL, es, ep, q1, q2⟩ := Fr.dict F
  exact r.map fun b o hb e hq => ⟨k4 b o (not_dict q1 q2 e hq) e, hb⟩
theorem Tgt.pair {x y : PySem.Str} {p1 p2 p : Pos} {n : Nat} {v1 v2 : PV} (hx : k ≠ some x) (hy : k ≠ some y) (hlx : c.env.kindOf x = some .local) (hly : c.env.kindOf y = some .local) :
    Tgt c k (.Tuple [.Name x p1, .Name y p2] n p) (.tup [v1, v2]) (fun m => upd (upd m x v1) y v2) := by
  intro m a s u S r Q E hQ
  obtain ⟨t, q, its, rfl, ha, hl, hr⟩ := rep_tup r
  cases hr with
  | cons r1 hr =>
  cases hr with
  | cons r2 hr =>
  cases hr
  refine wpAny_assign_Tuple c.handled (rep_isT hl) (by rfl) (by rfl) fun h' he => ?_
  have K : Keeps s { s with heap := h' } := ⟨h', s.toks, rfl, ext_fresh he⟩
  refine wpAny_bind (wpAny_holding (wpAny_assign_Name ((S.keeps K).store (r1.keeps K) hx hlx fun s2 S2 X2 k2 => ?_)))
  refine wpAny_bind (wpAny_holding (wpAny_assign_Name (S2.store ((S.keeps K).off k2 (r2.keeps K)) hy hly fun s3 S3 X3 k3 => ?_)))
  exact wpAny_pure (hQ s3 S3 (((Ext.of_keeps K).trans X2).trans X3) fun b o hb e => k3 b o hb (k2 b o hb (ext_fresh he b o e)))
theorem Ex1.assign2 {x y : PySem.Str} {p1 p2 p pos : Pos} {n : Nat} {e : Expr} {v1 v2 : PV} {P : Option PV → Loc → Option PySem.Str → Prop} (h : Ev c m k e (.tup [v1, v2])) (hx : k ≠ some x) (hy : k ≠ some y) (hlx : c.env.kindOf x = some .local) (hly : c.env.kindOf y = some .local)
    (hs : swapsWithSole [.Tuple [.Name x p1, .Name y p2] n p] e pos.line c.env = pure false) (hw : swappedStores [.Tuple [.Name x p1, .Name y p2] n p] e c.env = pure none) (hP : P none (upd (upd m x v1) y v2) k) : Ex1 c m k (.Assign [.Tuple [.Name x p1, .Name y p2] n p] e pos) P := by
  intro s a E S
  refine Assign_Tuple (h s a S _ E fun u s1 K1 r1 => ?_) hs hw
  exact Tgt.pair hx hy hlx hly m a s1 u (S.keeps K1) r1 _ E fun s2 S2 X _ => ⟨none, _, k, a, .next, S2, (Ext.of_keeps K1).trans X, hP⟩
/-- x, y = (.., ..): the names are stored from behind -/
theorem Ex1.assign2s {x y : PySem.Str} {p1 p2 p pos : Pos} {n : Nat} {e : Expr} {v1 v2 : PV} {P : Option PV → Loc → Option PySem.Str → Prop} (h : Ev c m k e (.tup [v1, v2])) (hx : k ≠ some x) (hy : k ≠ some y) (hlx : c.env.kindOf x = some .local) (hly : c.env.kindOf y = some .local)
    (hs : swapsWithSole [.Tuple [.Name x p1, .Name y p2] n p] e pos.line c.env = pure false) (hw : swappedStores [.Tuple [.Name x p1, .Name y p2] n p] e c.env = pure (some [x, y])) (hP : P none (upd (upd m y v2) x v1) k) : Ex1 c m k (.Assign [.Tuple [.Name x p1, .Name y p2] n p] e pos) P := by
  intro s a E S
  refine Assign_Tuple_swapped (names := [x, y]) (h s a S _ E fun u s1 K1 r1 => ?_) hs hw
  obtain ⟨t, q, its, rfl, ha, hl, hr⟩ := rep_tup r1
  cases hr with
  | cons r1 hr =>
  cases hr with
  | cons r2 hr =>
  cases hr
  rename_i u1 u2
  show wpAny _ _ (unpackItems (.ref t) (#[u1, u2] : Array Value).size none) _ _ _
  refine wpAny_unpackItems_tuple c.handled (rep_isT hl) fun h' he => ?_
  have K : Keeps s1 { s1 with heap := h' } := ⟨h', s1.toks, rfl, ext_fresh he⟩
  have S2 := (S.keeps K1).keeps K
  refine wpAny_bind (wpAny_holding (bindName_ (S2.store (r2.keeps K) hy hly fun s2 S3 X2 k2 => ?_)))
  refine wpAny_bind (wpAny_holding (bindName_ (S3.store (S2.off k2 (r1.keeps K)) hx hlx fun s3 S4 X3 k3 => ?_)))
  exact wpAny_pure ⟨none, _, k, a, .next, S4, ((Ext.of_keeps (ktrans K1 K)).trans X2).trans X3, hP⟩
theorem Ex1.assign3s {x y z : PySem.Str} {p1 p2 p3 p pos : Pos} {n : Nat} {e : Expr} {v1 v2 v3 : PV} {P : Option PV → Loc → Option PySem.Str → Prop} (h : Ev c m k e (.tup [v1, v2, v3])) (hx : k ≠ some x) (hy : k ≠ some y) (hz : k ≠ some z) (hlx : c.env.kindOf x = some .local) (hly : c.env.kindOf y = some .local) (hlz : c.env.kindOf z = some .local)
    (hs : swapsWithSole [.Tuple [.Name x p1, .Name y p2, .Name z p3] n p] e pos.line c.env = pure false) (hw : swappedStores [.Tuple [.Name x p1, .Name y p2, .Name z p3] n p] e c.env = pure (some [x, y, z])) (hP : P none (upd (upd (upd m z v3) y v2) x v1) k) :
    Ex1 c m k (.Assign [.Tuple [.Name x p1, .Name y p2, .Name z p3] n p] e pos) P := by
  intro s a E S
  refine Assign_Tuple_swapped (names := [x, y, z]) (h s a S _ E fun u s1 K1 r1 => ?_) hs hw
  obtain ⟨t, q, its, rfl, ha, hl, hr⟩ := rep_tup r1
  cases hr with
  | cons r1 hr =>
  cases hr with
  | cons r2 hr =>
  cases hr with
  | cons r3 hr =>
  cases hr
  rename_i u1 u2 u3
  show wpAny _ _ (unpackItems (.ref t) (#[u1, u2, u3] : Array Value).size none) _ _ _
  refine wpAny_unpackItems_tuple c.handled (rep_isT hl) fun h' he => ?_
  have K : Keeps s1 { s1 with heap := h' } := ⟨h', s1.toks, rfl, ext_fresh he⟩
  have S2 := (S.keeps K1).keeps K
  refine wpAny_bind (wpAny_holding (bindName_ (S2.store (r3.keeps K) hz hlz fun s2 S3 X2 k2 => ?_)))
  refine wpAny_bind (wpAny_holding (bindName_ (S3.store (S2.off k2 (r2.keeps K)) hy hly fun s3 S4 X3 k3 => ?_)))
  refine wpAny_bind (wpAny_holding (bindName_ (S4.store (S3.off k3 (S2.off k2 (r1.keeps K))) hx hlx fun s4 S5 X4 k4 => ?_)))
  exact wpAny_pure ⟨none, _, k, a, .next, S5, (((Ext.of_keeps (ktrans K1 K)).trans X2).trans X3).trans X4, hP⟩

theorem bits_256 : Builtin.Int.intBits 256 = 9 := by decide +kernel
theorem Bin.pow256 {n : Nat} (h : n ≤ 10000000) : BinOk c .Pow (.int 256) (.int n) (.int (256 ^ n)) := Bin.pow (by rw [bits_256]; omega)
theorem bits_pow256 (n : Nat) : Builtin.Int.intBits (256 ^ n) ≤ 9 * n + 1 := intBits_pow_le (by rw [bits_256]; exact Nat.le_refl _) n
theorem mul_pow256 {n m : Nat} {x : Int} (hx : Builtin.Int.intBits x ≤ m) (h : 9 * n + 1 + m ≤ 134217728) : IntMulOk (256 ^ n) x := IntMulOk.of_le (bits_pow256 n) hx h
theorem mul_pow256' {n m : Nat} {x : Int} (hx : Builtin.Int.intBits x ≤ m) (h : 9 * n + 1 + m ≤ 134217728) : IntMulOk x (256 ^ n) := IntMulOk.of_le hx (bits_pow256 n) (by omega)
end Mine

set_option maxRecDepth 100000
set_option linter.unusedVariables false
namespace Mine
open PySem PySem.W PyProof.Rows PySem.Calls
variable {c : Fx} {m : Loc} {k : Option PySem.Str}

/-! ## list comprehensions of one clause, without tests -/
theorem compLoop_go {prog : Program} {w : World} {A : Around} {R : Result → Shared → Prop} {s : Shared} {elt target iter : Expr} {scope : Scope} {pos : Pos} {it acc : Value} {env : Env} (I : Nat → Shared → Prop)
    (turn : ∀ n s, I n s → wpAny (model prog w) A (pyNext it) (fun r s₁ => match r with
      | none => R (.ok .next) s₁
      | some v => wpAny (model prog w) A (letOwnedTupleGo target it v) (fun _ s₁' => wpAny (model prog w) A (assign target env v) (fun _ s₂ => wpAny (model prog w) A (eval elt env) (fun x s₄ =>
          wpAny (model prog w) A (call (.builtin "list.append") [acc, x]) (fun _ s₅ => ∃ m, m < n ∧ I m s₅) (notedBy (model prog w) A env fun e s' => R (.error e) s') s₄) (notedBy (model prog w) A env fun e s' => R (.error e) s') s₂) (notedBy (model prog w) A env fun e s' => R (.error e) s') s₁')
          (notedBy (model prog w) A env fun e s' => R (.error e) s') s₁) (notedBy (model prog w) A env fun e s' => R (.error e) s') s)
    (n : Nat) (h : I n s) : codeAny (model prog w) A (.compLoop (.ListComp elt [⟨target, iter, [], 0⟩] scope pos) 0 it acc env) R s := by
  refine codeAny_loop rfl I (fun n s hI => ?_) n h
  show wpAny _ A ((compTurn (.ListComp elt [⟨target, iter, [], 0⟩] scope pos) 0 it acc env).onRaise (fun x => do noteFrame x env; theTreesLotGoes x)) _ _ s
  refine wpAny_noted ?_
  rw [compTurn_list]
  refine wpAny_bind (wpAny_standAt (wpAny_bind (wpAny_mono (turn n s hI) (fun r s₁ h₁ => ?_) fun _ _ h' => h')))
  cases r with
  | none => exact wpAny_pure h₁
  | some v =>
    refine wpAny_bind (wpAny_mono h₁ (fun _ s₁' h₁' => ?_) fun _ _ h' => h')
    refine wpAny_bind (wpAny_mono h₁' (fun _ s₂ h₂ => ?_) fun _ _ h' => h')
    refine wpAny_bind (wpAny_tests_nil ?_)
    exact wpAny_bind (wpAny_bind (wpAny_mono h₂ (fun x s₄ h₄ => wpAny_bind (wpAny_mono h₄ (fun _ s₅ h₅ => wpAny_pure (wpAny_pure ⟨rfl, h₅⟩)) fun _ _ h' => h')) fun _ _ h' => h'))

/-- what a comprehension's element is to be, in every frame that may be the comprehension's -/
def Elts (c : Fx) (scope : Scope) (target elt : Expr) (xs vs : List PV) : Prop :=
  ∀ c' : Fx, c'.fns = c.fns → c'.lv = c.lv → (∃ C, c'.env = compEnv scope C c.env) → ∀ (i : Nat) x v, xs[i]? = some x → vs[i]? = some v → ∃ f, Tgt c' none target x f ∧ Ev c' (f fun _ => none) none elt v

theorem comp_core {target elt iter : Expr} {scope : Scope} {pos : Pos} {xs vs : List PV} {s s₁ : Shared} {a : Addr} {it : Value} {E : Value → Shared → Prop} {RR : Value → Env → Result → Shared → Prop} (S : St c m k a s) (W : Iter c k a xs s it s₁)
    (hlen : xs.length = vs.length) (hsz : xs.length ≤ 16777216) (hcell : ∀ y ∈ scope.names, y.2 ≠ .cell) (hkind : scope.kind = .function) (elts : Elts c scope target elt xs vs)
    (hRR : ∀ (D C : Addr) (h' : Heap) (tk : Nat) (m' : PySem.Str → Option Value) (ys : List Value) (n : Nat), okC c k a D → s₁.heap.get? D = none → s₁.heap.get? C = none → D ≠ C → h'.Ns C m' → IsL h' D ys.toArray n →
      RepAll h' (fun b => okC c k a b ∧ b ≠ D) ys vs → (∀ b o, s.heap.get? b = some o → h'.get? b = some o) → RR (.ref D) (compEnv scope C c.env) (.ok .next) { s₁ with heap := h', toks := tk }) :
    wpAny c.M c.A (newList []) (fun acc s₃ => wpAny c.M c.A (newFunctionEnv scope c.env.globals [] [] c.env.qual none .none (some c.env)) (fun cenv s₄ =>
      codeAny c.M c.A (.compStart (.ListComp elt [⟨target, iter, [], 0⟩] scope pos) 0 it acc { cenv with scope := scope }) (RR acc { cenv with scope := scope }) s₄) E s₃) E s₁ := by
  obtain ⟨K, I, fp, Pi, St', rfl, W, st0, hfp, hI, hobj, hP⟩ := W
  have K' := K
  obtain ⟨hh1, tk1, e1, hk1⟩ := K'
  have S1 := S.keeps K
  obtain ⟨mv₀, F₀, H₀, H2₀⟩ := S.ex
  obtain ⟨mv₁, F₁, H₁, H2₁⟩ := S1.ex
  have I1 : I < s₁.heap.objs.size := by obtain ⟨o, _, _, e, _⟩ := hobj _ _ st0; exact Heap.lt_size e
  refine wpAny_newObj_type (wpAny_newFunctionEnv hcell (by intro y hy; simp at hy) (fun h₂ hns₂ hsb₂ => ?_) hkind) (by show (0 : Nat) ≤ sizeLine; exact Nat.zero_le _)
  dsimp only at hns₂ hsb₂ ⊢
  generalize hH2 : s₁.heap.push { cls := .type "list", dict := none, data := .seq ([] : List Value).toArray } = H2 at hns₂ hsb₂ ⊢
  have hC : H2.objs.size = s₁.heap.objs.size + 1 := by rw [← hH2, Heap.size_push]
  obtain ⟨D, hDD⟩ : ∃ D, D = s₁.heap.objs.size := ⟨_, rfl⟩
  obtain ⟨C, hCC⟩ : ∃ C, C = H2.objs.size := ⟨_, rfl⟩
  rw [← hDD] at hC I1 ⊢
  rw [← hCC] at hC hns₂ hsb₂ ⊢
  have hDn : ∀ b o, s₁.heap.get? b = some o → b < D := fun b o e => by rw [hDD]; exact Heap.lt_size e
  have hlD : D < C := by rw [hC]; exact Nat.lt_succ_self _
  have hDC : D ≠ C := Nat.ne_of_lt hlD
  have below : ∀ b o, s₁.heap.get? b = some o → b ≠ C ∧ b ≠ D := fun b o e => ⟨Nat.ne_of_lt (Nat.lt_trans (hDn b o e) hlD), Nat.ne_of_lt (hDn b o e)⟩
  have old : ∀ b o, s₁.heap.get? b = some o → h₂.get? b = some o := fun b o e => hsb₂.extBut b o (below b o e).1 (Heap.get?_push_of_some _ (hH2 ▸ Heap.get?_push_of_some _ e))
  have hacc : IsL h₂ D (#[] : Array Value) 0 := hsb₂.extBut _ _ hDC (Heap.get?_push_of_some _ (by rw [← hH2, hDD]; exact Heap.get?_push_size _ rfl))
  have fresh : ∀ b, D ≤ b → s₁.heap.get? b = none := fun b hb => by
    cases e : s₁.heap.get? b with
    | none => rfl
    | some o => exact absurd (hDn b o e) (Nat.not_lt.mpr hb)
  have hsk : ∀ b o, s.heap.get? b = some o → s₁.heap.get? b = some o := fun b o e => by rw [e1]; exact hk1 b o e
  have s_lt : ∀ b o, s.heap.get? b = some o → b < D := fun b o e => hDn b o (hsk b o e)
  have hfpD : D ∉ fp ∧ C ∉ fp := by
    refine ⟨fun q => ?_, fun q => ?_⟩
    · obtain ⟨_, _, o, e⟩ := hfp _ q; exact (below _ _ e).2 rfl
    · obtain ⟨_, _, o, e⟩ := hfp _ q; exact (below _ _ e).1 rfl
  have hID : I ≠ D := Nat.ne_of_lt I1
  have hIC : I ≠ C := Nat.ne_of_lt (Nat.lt_trans I1 hlD)
  have hLC : c.env.locals < C := Nat.lt_trans (by rw [hDD]; exact F₁.ns.lt) hlD
  let c' : Fx := {
    prog := c.prog, w := c.w, A := c.A, env := compEnv scope C c.env, h₀ := c.h₀, mg := c.mg, mb := c.mb, fns := c.fns, lv := c.lv
    kind := hkind, glob := c.glob, blt := c.blt, handled := c.handled, depth := c.depth, units := c.units, tree := c.tree, frames := c.frames, base := c.base
    ban := fun b => c.ban b ∨ (k.isSome = true ∧ b = a) ∨ b = D
    banned := fun b hb => by
      show b ≤ C
      rcases hb with hb | ⟨hb, rfl⟩ | rfl
      · exact Nat.le_of_lt (Nat.lt_of_le_of_lt (c.banned b hb) hLC)
      · cases k with
        | none => cases hb
        | some x => obtain ⟨_, _, _, _, _, q⟩ := H2₁ x rfl; exact Nat.le_of_lt (Nat.lt_trans (hDn _ _ q) hlD)
      · exact Nat.le_of_lt hlD }
  have ban_of : ∀ b o, okC c k a b → s₁.heap.get? b = some o → okC c' none 0 b := fun b o hb e =>
    ⟨fun q => q.elim hb.1 fun q => q.elim (fun z => hb.2 z.1 z.2) fun z => (below b o e).2 z, fun z => by cases z⟩
  have mkS : ∀ (h : Heap) (tk : Nat) (mv : PySem.Str → Option Value), h.Ns C mv → (∀ b o, b ≠ I → s₁.heap.get? b = some o → h.get? b = some o) → St c' (fun _ => none) none 0 { s₁ with heap := h, toks := tk } := fun h tk mv hn hk =>
    ⟨mv, ⟨hn, fun b o e => hk b o (fun z => by have := F₀.keep b o e; rw [z, hI] at this; cases this) (F₁.keep b o e), Nat.le_of_lt (Nat.lt_of_le_of_lt F₀.above hLC)⟩, fun x v e => (nomatch e), fun x e => (nomatch e)⟩
  have loop : ∀ s₃ : Shared, s₃ = { s₁ with heap := h₂, toks := s₁.toks + ([] : List (PySem.Str × Value)).length } →
      codeAny c.M c.A (.compLoop (.ListComp elt [⟨target, iter, [], 0⟩] scope pos) 0 (.ref I) (.ref D) (compEnv scope C c.env)) (RR (.ref D) (compEnv scope C c.env)) s₃ := by
    rintro s₃ rfl
    refine compLoop_go (fun n s' => ∃ (i : Nat) (h : Heap) (tk : Nat) (ys : List Value) (q : Nat) (mv : PySem.Str → Option Value), i ≤ xs.length ∧ n = xs.length + 1 - i ∧ s' = { s₁ with heap := h, toks := tk } ∧ St' i h ∧ IsL h D ys.toArray q ∧ RepAll h (okC c' none 0) ys (vs.take i) ∧ h.Ns C mv ∧
      (∀ b o, b ≠ I → s₁.heap.get? b = some o → h.get? b = some o)) ?_ (xs.length + 1)
      ⟨0, h₂, _, [], 0, _, Nat.zero_le _, rfl, rfl, W.frame _ _ _ st0 fun b _ o e => old b o e, hacc, by simpa using RepAll.nil, hns₂, fun b o _ e => old b o e⟩
    rintro n s' ⟨i, h, tk, ys, q, mv, hle, rfl, rfl, st, hl, hr, hn, hk⟩
    by_cases hlt : i < xs.length
    · refine W.item i _ _ _ hlt st fun v h' tk' hPv st1 hk' => ?_
      have hk'' : ∀ b o, b ≠ I → h.get? b = some o → h'.get? b = some o := fun b o hb e => hk' b o (by simpa using hb) e
      refine letGo_ok (c := c) (hobj _ _ st1) ?_
      have hn' : h'.Ns C mv := hn.at' fun o e => hk'' _ o (Ne.symm hIC) e
      have S' : St c' (fun _ => none) none 0 { s₁ with heap := h', toks := tk' } := mkS h' tk' mv hn' fun b o hb e => hk'' b o hb (hk b o hb e)
      obtain ⟨x, hx, rx⟩ := hP i v hlt hPv
      have rx' : Rep h' (okC c' none 0) v x := rx.map fun b o hb e _ => ⟨hk'' b o hb.2 (hk b o hb.2 e), ban_of b o hb.1 e⟩
      obtain ⟨w, hw⟩ : ∃ w, vs[i]? = some w := ⟨vs[i]'(by omega), by simp [show i < vs.length by omega]⟩
      obtain ⟨f, hf, hev⟩ := elts c' rfl rfl ⟨C, rfl⟩ i x w hx hw
      refine hf (fun _ => none) 0 _ v S' rx' _ _ fun s2 S2 X3 hk2 => ?_
      refine hev s2 0 S2 _ _ fun u s3 K3 r3 => ?_
      obtain ⟨h2', t2', rfl⟩ := X3.same
      obtain ⟨h3, t3, rfl, hk3⟩ := K3
      have hk2 : ∀ b o, b ≠ C → h'.get? b = some o → h2'.get? b = some o := hk2
      have hDl : IsL h3 D ys.toArray q := hk3 _ _ (hk2 _ _ hDC (hk'' _ _ (Ne.symm hID) hl))
      have hyl : ys.length ≤ xs.length := by have := hr.length; rw [List.length_take] at this; omega
      refine wpAny_list_append_plain ⟨q, hDl⟩ (fun h5 hl5 hs5 => ?_) (by rw [size_line, List.size_toArray]; omega)
      obtain ⟨q5, hl5⟩ := hl5
      obtain ⟨mv2, F2, _, _⟩ := S2.ex
      have hk5 : ∀ b o, b ≠ D → h3.get? b = some o → h5.get? b = some o := fun b o hb e => hs5.extBut b o hb e
      have all : ∀ b o, b ≠ I → b ≠ C → b ≠ D → h.get? b = some o → h5.get? b = some o := fun b o b1 b2 b3 e => hk5 b o b3 (hk3 b o (hk2 b o b2 (hk'' b o b1 e)))
      refine ⟨xs.length + 1 - (i + 1), by omega, i + 1, h5, t3, ys ++ [u], q5, mv2, hlt, rfl, rfl, ?_, ?_, ?_, ?_, ?_⟩
      · refine W.frame _ _ _ st1 fun b hb o e => hk5 b o (fun z => hfpD.1 (z ▸ hb)) (hk3 b o (hk2 b o (fun z => hfpD.2 (z ▸ hb)) e))
      · have e : (ys ++ [u]).toArray = ys.toArray.push u := by simp
        rw [e]; exact hl5
      · have ev : vs.take (i + 1) = vs.take i ++ [w] := by rw [List.take_add_one, hw]; rfl
        rw [ev]
        have hIo := hobj _ _ st
        obtain ⟨oL, es, ep, q1, q2, _⟩ := hn
        refine RepAll.append (hr.map fun b o hb e hq => ⟨all b o ?_ ?_ (fun z => hb.1 (.inr (.inr z))) e, hb⟩) (.cons (r3.map fun b o hb e _ => ⟨hk5 b o (fun z => hb.1 (.inr (.inr z))) e, hb⟩) .nil)
        · rintro rfl
          obtain ⟨o', _, _, z1, _, z3, _⟩ := hIo
          rw [z1] at e
          obtain ⟨_, _, z⟩ := hq
          rw [← Option.some.inj e, z3] at z
          cases z
        · exact not_dict q1 q2 e hq
      · exact (F2.ns.keeps hk3).sameBut hs5 (Ne.symm hDC)
      · exact fun b o hb e => all b o hb (below b o e).1 (below b o e).2 (hk b o hb e)
    · have hie : i = xs.length := by omega
      subst hie
      refine W.done _ _ _ st fun h' tk' hk' => ?_
      have hk'' : ∀ b o, b ≠ I → h.get? b = some o → h'.get? b = some o := fun b o hb e => hk' b o (by simpa using hb) e
      rw [hlen, List.take_length] at hr
      refine hRR D C h' tk' mv ys q (S1.fresh D (by rw [hDD]; exact Nat.le_refl _)) (fresh _ (Nat.le_refl _)) (fresh _ (Nat.le_of_lt hlD)) hDC (hn.at' fun o e => hk'' _ o (Ne.symm hIC) e) (hk'' _ _ (Ne.symm hID) hl) ?_ fun b o e => hk'' b o (fun z => by rw [z, hI] at e; cases e) (hk b o (fun z => by rw [z, hI] at e; cases e) (hsk b o e))
      have hIo := hobj _ _ st
      refine hr.map fun b o hb e hq => ⟨hk'' b o ?_ e, ⟨fun z => hb.1 (.inl z), fun z1 z2 => hb.1 (.inr (.inl ⟨z1, z2⟩))⟩, fun z => hb.1 (.inr (.inr z))⟩
      rintro rfl
      obtain ⟨o', _, _, z1, _, z3, _⟩ := hIo
      rw [z1] at e
      obtain ⟨_, _, z⟩ := hq
      rw [← Option.some.inj e, z3] at z
      cases z
  exact codeAny_compStart_list (loop _ rfl) (W.self 0 _ _ _ (W.frame _ _ _ st0 fun b _ o e => old b o e) (loop _ rfl))

theorem Ev.comp {target elt iter : Expr} {scope : Scope} {pos : Pos} {xs vs : List PV} (hi : IterOk c m k iter xs) (elts : Elts c scope target elt xs vs) (hlen : xs.length = vs.length) (hsz : xs.length ≤ 16777216)
    (hfree : ∀ y ∈ scope.names, y.2 ≠ .free) (hcell : ∀ y ∈ scope.names, y.2 ≠ .cell) (hkind : scope.kind = .function) (hnames : ∀ y ∈ scope.names, y.2 = .local → scope.names.lookup y.1 = some .local)
    (hs : ∀ x, foldedSetIterable iter c.env x = pure x) : Ev c m k (.ListComp elt [⟨target, iter, [], 0⟩] scope pos) (.list vs) := by
  intro s a S Q E hQ
  refine wpAny_ListComp hfree hkind hnames (hi s a S _ E fun it s₁ W => ?_) hs
  have K := W.keeps
  refine comp_core (RR := fun acc cenv r s' => ∃ m, s'.heap.Ns cenv.locals m ∧ ∀ h', Heap.SameBut cenv.locals s'.heap h' →
    match r with | .ok _ => Q acc { s' with heap := h' } | .error x => wpAny c.M c.A (passOn "comprehension.variables-let-go" x cenv) Q E { s' with heap := h' }) S W hlen hsz hcell hkind elts ?_
  intro D C h' tk m' ys n hokD hD hC hDC hn hl hr hk
  refine ⟨m', hn, fun h'' hs'' => ?_⟩
  obtain ⟨h1, t1, rfl, hk1⟩ := K
  have hCs : ∀ b o, s.heap.get? b = some o → b ≠ C := fun b o e z => by have := hk1 b o e; rw [z] at this; rw [this] at hC; cases hC
  obtain ⟨oC, es, ep, q1, q2, _⟩ := hn
  refine hQ _ _ ⟨h'', tk, rfl, fun b o e => hs''.extBut b o (hCs b o e) (hk b o e)⟩ (.list (n := n) hokD (hs''.extBut _ _ hDC hl) (hr.map fun b o hb e hq => ⟨hs''.extBut b o (not_dict q1 q2 e hq) e, hb.1⟩))

theorem Ex1.assignComp {x : PySem.Str} {p : Pos} {target elt iter : Expr} {scope : Scope} {pos spos : Pos} {xs vs : List PV} {P : Option PV → Loc → Option PySem.Str → Prop} (hi : IterOk c m k iter xs) (elts : Elts c scope target elt xs vs) (hlen : xs.length = vs.length) (hsz : xs.length ≤ 16777216)
    (hfree : ∀ y ∈ scope.names, y.2 ≠ .free) (hcell : ∀ y ∈ scope.names, y.2 ≠ .cell) (hkind : scope.kind = .function) (hnames : ∀ y ∈ scope.names, y.2 = .local → scope.names.lookup y.1 = some .local)
    (hs : ∀ x, foldedSetIterable iter c.env x = pure x) (hsw : swapsWith (.ListComp elt [⟨target, iter, [], 0⟩] scope pos) (some (.Name x p)) spos.line c.env = pure true)
    (hx : k ≠ some x) (hlx : c.env.kindOf x = some .local) (hP : P none (upd m x (.list vs)) k) : Ex1 c m k (.Assign [.Name x p] (.ListComp elt [⟨target, iter, [], 0⟩] scope pos) spos) P := by
  intro s a E S
  rw [exec_Assign_Name_used _ _ _ _ hsw]
  refine wpAny_bind (wpAny_standAt (wpAny_bind ?_))
  show wpAny _ c.A (do let _ ← comprehension (.ListComp elt [⟨target, iter, [], 0⟩] scope pos) scope c.env _ (newList []) false (eval iter c.env) (some (PySem.assign (.Name x p) c.env))) _ _ s
  refine wpAny_bind (wpAny_mono (wpAny_comprehension_use (Q := fun _ s' => ∃ r m' k' a', Fl c s'.heap .next r ∧ St c m' k' a' s' ∧ Ext (· = c.env.locals) k a k' a' s s' ∧ P r m' k') rfl hs hfree hkind hnames (hi s a S _ E fun it s₁ W => ?_)) (fun _ s' hq => wpAny_pure (wpAny_pure hq)) fun _ _ e => e)
  have K := W.keeps
  have S1 := S.keeps K
  refine comp_core (RR := fun acc cenv r s' => match r with
      | .ok _ => wpAny c.M c.A (PySem.assign (.Name x p) c.env acc) (fun _ s'' => ∃ m, s''.heap.Ns cenv.locals m ∧ ∀ h', Heap.SameBut cenv.locals s''.heap h' → ∃ r m' k' a', Fl c h' .next r ∧ St c m' k' a' { s'' with heap := h' } ∧ Ext (· = c.env.locals) k a k' a' s { s'' with heap := h' } ∧ P r m' k') E s'
      | .error x => ∃ m, s'.heap.Ns cenv.locals m ∧ ∀ h', Heap.SameBut cenv.locals s'.heap h' → wpAny c.M c.A (passOn "comprehension.variables-let-go" x cenv) (fun _ s' => ∃ r m' k' a', Fl c s'.heap .next r ∧ St c m' k' a' s' ∧ Ext (· = c.env.locals) k a k' a' s s' ∧ P r m' k') E { s' with heap := h' }) S W hlen hsz hcell hkind elts ?_
  intro D C h' tk m' ys n hokD hD hC hDC hn hl hr hk
  obtain ⟨h1, t1, rfl, hk1⟩ := K
  have hCs : ∀ b o, s.heap.get? b = some o → b ≠ C := fun b o e z => by have := hk1 b o e; rw [z] at this; rw [this] at hC; cases hC
  have S2 : St c m k a { s with heap := h', toks := tk } := S.keeps ⟨h', tk, rfl, hk⟩
  have r2 : Rep h' (okC c k a) (.ref D) (.list vs) := .list (n := n) hokD hl (hr.mono (fun _ _ _ e => e) fun _ h => h.1)
  obtain ⟨_, F00, _, _⟩ := S.ex
  obtain ⟨oL, _, _, eL, _⟩ := F00.ns
  have hCL : C ≠ c.env.locals := fun z => hCs _ _ eL z.symm
  refine wpAny_assign_Name (S2.store r2 hx hlx fun s3 S3 X3 hk3 => ?_)
  have hn3 : s3.heap.Ns C m' := hn.at' fun o e => hk3 _ o hCL e
  refine ⟨m', hn3, fun h4 hs4 => ?_⟩
  obtain ⟨oC, es, ep, q1, q2, _⟩ := hn3
  have X4 := (Ext.of_keeps (X := (· = c.env.locals)) (k := k) (a := a) (show Keeps s { s with heap := h', toks := tk } from ⟨h', tk, rfl, hk⟩)).trans X3
  obtain ⟨h3, t3, rfl⟩ := X3.same
  refine ⟨none, _, k, a, .next, ?_, ?_, hP⟩
  · obtain ⟨mv, F, H, H2⟩ := S3.ex
    have up : ∀ {ok : Addr → Prop} {u : Value} {v : PV}, Rep h3 ok u v → Rep h4 ok u v := fun r => r.map fun b o hb e hq => ⟨hs4.extBut b o (not_dict q1 q2 e hq) e, hb⟩
    have F' : Fr c.h₀ c.env.locals h4 mv := ⟨F.ns.sameBut hs4 (Ne.symm hCL), fun b o e => hs4.extBut b o (hCs b o (S.in b o e)) (F.keep b o e), F.above⟩
    refine ⟨mv, F', fun y v e => ?_, fun y e => ?_⟩
    · obtain ⟨u, z1, z2⟩ := H y v e
      refine ⟨u, z1, ?_⟩
      split
      · rename_i z; rw [if_pos z] at z2; exact ⟨z2.1, up z2.2⟩
      · rename_i z; rw [if_neg z] at z2; exact up z2
    · obtain ⟨z1, z2, z3, its, q, z4⟩ := H2 y e
      exact ⟨z1, z2, z3, its, q, hs4.extBut _ _ (not_dict q1 q2 z4 ⟨_, _, rfl⟩) z4⟩
  · refine ⟨⟨h4, t3, rfl⟩, fun b o hb hok e => hs4.extBut b o (hCs b o e) (X4.kept b o hb hok e), fun b o e => ?_, X4.from'⟩
    obtain ⟨o', e'⟩ := X4.live b o e
    exact ⟨o', hs4.extBut b o' (hCs b o e) e'⟩
theorem kindOf_comp {sc : Scope} {C : Addr} {e : Env} {x : PySem.Str} (hE : c.env = compEnv sc C e) : c.env.kindOf x = sc.names.lookup x := by rw [hE]; rfl
end Mine

set_option maxRecDepth 100000
set_option linter.unusedVariables false
namespace Mine
open PySem PySem.W PyProof.Rows PySem.Calls
variable {c : Fx} {m : Loc} {k : Option PySem.Str}

/-! ## slices, by their forms -/
theorem pick_map {α β : Type} (f : α → β) (xs : List α) (lo hi st : Option Int) : pick (xs.map f) lo hi st = (pick xs lo hi st).map f := by
  unfold pick
  rw [List.length_map]
  generalize sliceRange _ _ _ = js
  induction js with
  | nil => rfl
  | cons j js ih =>
    simp only [List.filterMap_cons, List.getElem?_map]
    cases xs[j]? with
    | none => simpa using ih
    | some x => simpa using ih
theorem pick_plain {α : Type} (xs : List α) (lo hi : Option Int) : pick xs lo hi none = (xs.drop (lo.elim 0 (clipAt xs.length))).take (hi.elim xs.length (clipAt xs.length) - lo.elim 0 (clipAt xs.length)) := by
  unfold pick
  rw [sliceBounds_plain]
  simp only [sliceRange_one]
  have := pick_run xs.toArray (lo.elim 0 (clipAt xs.length)) (hi.elim xs.length (clipAt xs.length) - lo.elim 0 (clipAt xs.length))
  simpa using this
theorem pick_rev {α : Type} (xs : List α) : pick xs none none (some (-1)) = xs.reverse := by
  unfold pick
  rw [krv_bounds]
  show (sliceRange ((xs.length : Int) - 1) (-1) (-1)).filterMap (xs[·]?) = _
  rw [krv_sliceRange, krv_range, List.filterMap_reverse]
  have := krv_all xs.toArray
  simp at this
  rw [this]
theorem pick_upto {α : Type} (xs : List α) (n : Nat) : pick xs none (some (n : Int)) none = xs.take n := by
  rw [pick_plain]
  simp only [Option.elim_none, Option.elim_some, List.drop_zero, Nat.sub_zero]
  rw [clipAt_nat]
  exact (List.take_eq_take_min).symm
theorem pick_from {α : Type} (xs : List α) (n : Nat) : pick xs (some (n : Int)) none none = xs.drop n := by
  rw [pick_plain]
  simp only [Option.elim_none, Option.elim_some]
  rw [clipAt_nat]
  by_cases h : n ≤ xs.length
  · rw [Nat.min_eq_left h]
    exact List.take_of_length_le (by rw [List.length_drop]; exact Nat.le_refl _)
  · rw [Nat.min_eq_right (by omega), Nat.sub_self, List.take_zero, List.drop_eq_nil_of_le (by omega)]
theorem pick_butlast {α : Type} (xs : List α) : pick xs none (some (-1)) none = xs.dropLast := by
  rw [pick_plain]
  simp only [Option.elim_none, Option.elim_some, List.drop_zero, Nat.sub_zero]
  rw [show (-1 : Int) = -((1 : Nat) : Int) from rfl, clipAt_neg _ 1 (Nat.le_refl _), List.dropLast_eq_take]

theorem Ev.revI {e : Expr} {p pos q1 q2 : Pos} {n : Nat} {l : List Int} (h0 : Ev c m k e (IL l)) (hlen : l.length ≤ 16777216) : Ev c m k (.Subscript e (.Slice none none (some (.UnaryOp .USub (.Constant (.int 1) n q1) q2)) p) pos) (IL l.reverse) :=
  Ev.cast (Ev.slice (xs := l.map PV.int) (sp := some (-1)) h0 .none .none (.some (Ev.usub Ev.cint)) (by decide) (by simpa using hlen)) (by rw [pick_map, pick_rev])
theorem Ev.uptoI {e u : Expr} {p pos : Pos} {l : List Int} {n : Nat} (h0 : Ev c m k e (IL l)) (h1 : Ev c m k u (.int n)) (hlen : l.length ≤ 16777216) : Ev c m k (.Subscript e (.Slice none (some u) none p) pos) (IL (l.take n)) :=
  Ev.cast (Ev.slice (xs := l.map PV.int) (sp := none) h0 .none (.some h1) .none (by decide) (by simpa using hlen)) (by rw [pick_map, pick_upto])
theorem Ev.fromI {e u : Expr} {p pos : Pos} {l : List Int} {n : Nat} (h0 : Ev c m k e (IL l)) (h1 : Ev c m k u (.int n)) (hlen : l.length ≤ 16777216) : Ev c m k (.Subscript e (.Slice (some u) none none p) pos) (IL (l.drop n)) :=
  Ev.cast (Ev.slice (xs := l.map PV.int) (sp := none) h0 (.some h1) .none .none (by decide) (by simpa using hlen)) (by rw [pick_map, pick_from])
theorem Ev.butlastI {e : Expr} {p pos q1 q2 : Pos} {n : Nat} {l : List Int} (h0 : Ev c m k e (IL l)) (hlen : l.length ≤ 16777216) : Ev c m k (.Subscript e (.Slice none (some (.UnaryOp .USub (.Constant (.int 1) n q1) q2)) none p) pos) (IL l.dropLast) :=
  Ev.cast (Ev.slice (xs := l.map PV.int) (sp := none) h0 .none (.some (Ev.usub Ev.cint)) .none (by decide) (by simpa using hlen)) (by rw [pick_map, pick_butlast])
theorem Ev.upto {e u : Expr} {p pos : Pos} {xs : List PV} {n : Nat} (h0 : Ev c m k e (.list xs)) (h1 : Ev c m k u (.int n)) (hlen : xs.length ≤ 16777216) : Ev c m k (.Subscript e (.Slice none (some u) none p) pos) (.list (xs.take n)) :=
  Ev.cast (Ev.slice (sp := none) h0 .none (.some h1) .none (by decide) hlen) (by rw [pick_upto])

/-! ## lists of ints -/
theorem Bin.addI {x y : List Int} (hs : x.length + y.length ≤ 16777216) : BinOk c .Add (IL x) (IL y) (IL (x ++ y)) := by
  have := Bin.addL (c := c) (xs := x.map PV.int) (ys := y.map PV.int) (by simpa using hs)
  unfold IL
  rw [List.map_append]; exact this
theorem Bin.mulI {x : Int} {n : Nat} (h1 : n ≤ 16777216) : BinOk c .Mult (IL [x]) (.int n) (IL (List.replicate n x)) := by
  have := Bin.mulL (c := c) (x := .int x) (n := n) (by omega) (by omega)
  unfold IL
  rw [List.map_replicate]
  rw [Int.toNat_natCast] at this; exact this
theorem Ev.listI1 {e : Expr} {pos : Pos} {z : Int} (h : Ev c m k e (.int z)) (he : starEach [e] c.env = [(false, eval e c.env)]) : Ev c m k (.List [e] pos) (IL [z]) := Ev.list (EvL.cons h EvL.nil he) (by simp)
theorem Ev.listI0 {pos : Pos} : Ev c m k (.List [] pos) (IL []) := Ev.list EvL.nil (by simp)
theorem octs_length (l : List Int) : (octs l).length = l.length := by simp [octs]
theorem octs_append (a b : List Int) : octs (a ++ b) = octs a ++ octs b := by simp [octs]
theorem octs_take (l : List Int) (n : Nat) : octs (l.take n) = (octs l).take n := by simp [octs, List.map_take]
theorem octs_drop (l : List Int) (n : Nat) : octs (l.drop n) = (octs l).drop n := by simp [octs, List.map_drop]
def Oct (l : List Int) : Prop := ∀ n ∈ l, 0 ≤ n ∧ n < 256
theorem octs_getD {l : List Int} (h : Oct l) (i : Nat) : (((octs l).getD i 0).toNat : Int) = l.getD i 0 := by
  simp only [octs, List.getD_eq_getElem?_getD, List.getElem?_map]
  cases hz : l[i]? with
  | none => rfl
  | some z =>
    have := h z (List.mem_of_getElem? hz)
    simp only [Option.map_some, Option.getD_some]
    exact toU8 this.1 this.2
theorem IterOk.ints {e : Expr} {l : List Int} (h : Ev c m k e (IL l)) : IterOk c m k e (l.map PV.int) := IterOk.list h
theorem Ev.lenI {np pos : Pos} {e : Expr} {l : List Int} (h1 : EvW c m k e (IL l)) (hlen : l.length ≤ 16777216) (hk : c.env.kindOf "len" = some .globalImplicit) (he : starEach [e] c.env = [(false, eval e c.env)]) : Ev c m k (.Call (.Name "len" np) [e] [] pos) (.int l.length) :=
  Ev.cast (Ev.len h1 (by simpa using hlen) hk he) (by rw [List.length_map])
theorem Elts.ints {scope : Scope} {target elt : Expr} {l : List Int} {g : Int → Int} (h : ∀ c' : Fx, c'.fns = c.fns → c'.lv = c.lv → (∃ C, c'.env = compEnv scope C c.env) → ∀ x ∈ l, ∃ f, Tgt c' none target (.int x) f ∧ Ev c' (f fun _ => none) none elt (.int (g x))) :
    Elts c scope target elt (l.map PV.int) ((l.map g).map PV.int) := by
  intro c' h1 h2 h3 i x v hx hv
  rw [List.getElem?_map] at hx
  rw [List.getElem?_map, List.getElem?_map] at hv
  cases hz : l[i]? with
  | none => rw [hz] at hx; cases hx
  | some z =>
    rw [hz] at hx hv
    cases hx; cases hv
    exact h c' h1 h2 h3 z (List.mem_of_getElem? hz)
/-- a statement that goes on, and what holds behind it -/
theorem Ex.seq {st : Stmt} {rest : List Stmt} {P : Option PV → Loc → Option PySem.Str → Prop} (I : Loc → Option PySem.Str → Prop) (h : Ex1 c m k st (fun r m' k' => r = none ∧ I m' k')) (h2 : ∀ m' k', I m' k' → Ex c m' k' rest P) : Ex c m k (st :: rest) P :=
  Ex.cons (Ex1.mono h fun r m' k' hq => by obtain ⟨rfl, q⟩ := hq; exact h2 m' k' q)
end Mine

set_option maxRecDepth 100000
set_option linter.unusedVariables false
namespace Mine
open PySem PySem.W PyProof.Rows PySem.Calls
variable {c : Fx} {m : Loc} {k : Option PySem.Str}

/-! ## lists compared -/
theorem units_ok : c.A.units < cLine := by have := c.units; have e : cLine = 9900 := rfl; omega
theorem Cmp.neNil {xs : List PV} : CmpOk c .NotEq (.list xs) (.list []) (!xs.isEmpty) := by
  intro s u1 u2 I r1 r2 Q E hQ
  obtain ⟨a, n, its, rfl, ha, hl, hr⟩ := rep_list r1
  obtain ⟨b, n2, its2, rfl, hb, hl2, hr2⟩ := rep_list r2
  cases hr2
  have e := hr.length
  cases xs with
  | nil =>
    have e0 : its = [] := List.eq_nil_of_length_eq_zero e
    subst e0
    have h := SeqAt.RcNeAt.lists (A := c.A) (e := fun _ => true) hl.isList hl2.isList rfl units_ok (fun j h1 _ => absurd h1 (Nat.not_lt_zero j)) c.prog c.w E Q
    exact h (hQ s (krefl s))
  | cons x xs =>
    exact SeqAt.RcNeAt.lists_lengths (A := c.A) hl.isList hl2.isList (by simp [e]) units_ok c.prog c.w E Q (hQ s (krefl s))
theorem Cmp.neNilI {l : List Int} : CmpOk c .NotEq (IL l) (IL []) (!l.isEmpty) := by
  have := Cmp.neNil (c := c) (xs := l.map PV.int)
  cases l <;> exact this
theorem Cmp.eqBools3 {a b d a' b' d' : Bool} : CmpOk c .Eq (.list [.bool a, .bool b, .bool d]) (.list [.bool a', .bool b', .bool d']) (a == a' && (b == b' && d == d')) := by
  intro s u1 u2 I r1 r2 Q E hQ
  obtain ⟨a1, n, its, rfl, ha, hl, hr⟩ := rep_list r1
  obtain ⟨b1, n2, its2, rfl, hb, hl2, hr2⟩ := rep_list r2
  cases hr with
  | cons x1 hr =>
  cases hr with
  | cons x2 hr =>
  cases hr with
  | cons x3 hr =>
  cases hr
  cases hr2 with
  | cons y1 hr =>
  cases hr with
  | cons y2 hr =>
  cases hr with
  | cons y3 hr =>
  cases hr
  rw [rep_bool x1, rep_bool x2, rep_bool x3] at hl
  rw [rep_bool y1, rep_bool y2, rep_bool y3] at hl2
  refine SeqAt.eq_listAt (e := fun j => if j = 0 then a == a' else if j = 1 then b == b' else d == d') hl.isList hl2.isList rfl units_ok ?_ ?_
  · intro j h1 h2
    match j, h1 with
    | 0, _ => exact SeqAt.EqAt.bool_bool _ _
    | 1, _ => exact SeqAt.EqAt.bool_bool _ _
    | 2, _ => exact SeqAt.EqAt.bool_bool _ _
  · have := hQ s (krefl s)
    simpa [List.range_succ, Bool.and_assoc] using this

/-! ## a list that changes -/
theorem mapSeq_plain (f : Array Value → Array Value) (items : Array Value) (n : Nat) : ∃ n', Obj.mapSeq f { cls := .type "list", dict := none, data := .seq items n, slots := #[] } = { cls := .type "list", dict := none, data := .seq (f items) n', slots := #[] } := ⟨_, rfl⟩
theorem isL_update {h : Heap} {l : Addr} {items : Array Value} {n : Nat} (hl : IsL h l items n) (f : Array Value → Array Value) : ∃ n', IsL (h.update l (Obj.mapSeq f)) l (f items) n' := by
  obtain ⟨n', e⟩ := mapSeq_plain f items n
  refine ⟨n', ?_⟩
  show _ = _
  rw [Heap.get?_update_self _ hl (by rw [e]; rfl), e]
theorem ints_rep {h : Heap} {ok : Addr → Prop} : ∀ {vs : List Value} {l : List Int}, IntsAre vs l → RepAll h ok vs (l.map PV.int)
  | _, _, .nil => .nil
  | _, _, .cons _ _ t => .cons (.int _ _) (ints_rep t)
/-- the list changed -/
theorem St.mut {a : Addr} {s : Shared} {x : PySem.Str} {h' : Heap} {tk : Nat} {its : List Value} {n : Nat} {l : List Int} (S : St c m (some x) a s) (hs : Heap.SameBut a s.heap h') (hl : IsL h' a its.toArray n) (hi : IntsAre its l) (hok : c.any a) :
    St c (upd m x (IL l)) (some x) a { s with heap := h', toks := tk } ∧ Ext (· = c.env.locals) (some x) a (some x) a s { s with heap := h', toks := tk } := by
  obtain ⟨mv, F, H, H2⟩ := S.ex
  obtain ⟨q1, q2, q3, its0, n0, q4⟩ := H2 x rfl
  have keep : ∀ b o, b ≠ a → s.heap.get? b = some o → h'.get? b = some o := fun b o hb e => (hs.2 b hb).trans e
  refine ⟨⟨mv, ⟨F.ns.sameBut hs (Ne.symm q3), fun b o e => keep b o (fun z => by rw [z, q2] at e; cases e) (F.keep b o e), F.above⟩, fun y v e => ?_, fun y e => ?_⟩, ⟨⟨_, _, rfl⟩, fun b o _ hb e => keep b o (hb rfl) e, fun b o e => ?_, fun _ => .inl ⟨rfl, rfl⟩⟩⟩
  · by_cases hy : y = x
    · subst hy
      rw [upd_same] at e
      cases e
      exact ⟨_, q1, by rw [if_pos rfl]; exact ⟨rfl, .list hok hl (ints_rep hi)⟩⟩
    · rw [upd_ne hy rfl] at e
      obtain ⟨u, z1, z2⟩ := H y v e
      refine ⟨u, z1, ?_⟩
      have : ¬ some x = some y := fun z => hy (Option.some.inj z).symm
      rw [if_neg this] at z2 ⊢
      exact z2.map fun b o hb e _ => ⟨keep b o (hb.2 rfl) e, hb⟩
  · cases e
    exact ⟨q1, q2, q3, _, n, hl⟩
  · by_cases hb : b = a
    · exact ⟨_, hb ▸ hl⟩
    · exact ⟨o, keep b o hb e⟩
theorem St.list {a : Addr} {s : Shared} {x : PySem.Str} {l : List Int} (S : St c m (some x) a s) (hm : m x = some (IL l)) : ∃ its n, IsL s.heap a (List.toArray its) n ∧ IntsAre its l ∧ c.any a := by
  obtain ⟨mv, F, H, H2⟩ := S.ex
  obtain ⟨u, h1, h2⟩ := H x _ hm
  rw [if_pos rfl] at h2
  obtain ⟨rfl, r⟩ := h2
  obtain ⟨a', n, its, e, ha, hl, hr⟩ := rep_list r
  cases e
  exact ⟨its, n, hl, reps_ints hr, ha⟩
theorem St.ld {a : Addr} {s : Shared} {x : PySem.Str} {p : Pos} {Q : Value → Shared → Prop} {E : Value → Shared → Prop} (S : St c m (some x) a s) (hk : c.env.kindOf x = some .local) (hd : (x == ("__debug__" : PySem.Str)) = false) (h : Q (.ref a) s) : wpAny c.M c.A (eval (.Name x p) c.env) Q E s := by
  obtain ⟨mv, F, H, H2⟩ := S.ex
  exact wpAny_Name (wpAny_loadName_local c.kind hk F.ns (H2 x rfl).1 h) hd
theorem ints_push : ∀ {its : List Value} {l : List Int} {z : Int} {t : Tok}, IntsAre its l → IntsAre (its ++ [.int z t]) (l ++ [z])
  | _, _, _, _, .nil => .cons _ _ .nil
  | _, _, _, _, .cons _ _ q => .cons _ _ (ints_push q)
/-- x.append(e) -/
theorem Ex1.append {x : PySem.Str} {np apos pos spos : Pos} {e : Expr} {l : List Int} {z : Int} {P : Option PV → Loc → Option PySem.Str → Prop} (hm : m x = some (IL l)) (h : Ev c m (some x) e (.int z)) (hlen : l.length ≤ 16000000)
    (hk : c.env.kindOf x = some .local) (hd : (x == ("__debug__" : PySem.Str)) = false)
    (he : ∃ pl : Sem Bool, eval (.Call (.Attribute (.Name x np) "append" apos) [e] [] pos) c.env = (do
      let ov ← eval (.Name x np) c.env
      standAt apos.atName
      let (f, first) ← holding [ov] (getMethod ov "append" pl)
      callWith pos f first (backTo pos (starEach [e] c.env)) []))
    (he' : starEach [e] c.env = [(false, eval e c.env)]) (hi : interactive c.env = false) (hsw : swapsWith (.Call (.Attribute (.Name x np) "append" apos) [e] [] pos) none spos.line c.env = pure false)
    (hP : P none (upd m x (IL (l ++ [z]))) (some x)) : Ex1 c m (some x) (.Expr (.Call (.Attribute (.Name x np) "append" apos) [e] [] pos) spos) P := by
  intro s a E S
  obtain ⟨pl, he⟩ := he
  refine wpAny_Expr_any (MethodCall_ (pl := pl) (S.ld hk hd ?_) he) hi hsw
  obtain ⟨its, n, hl, _, _⟩ := S.list hm
  refine getMethod_list_append hl rfl rfl (callWith_method1 ?_ he' rfl)
  refine args_cons (h s a S _ _ fun u s1 K1 r1 => args_nil ?_) he'
  obtain ⟨t, rfl⟩ := rep_int r1
  have S1 := S.keeps K1
  obtain ⟨its, n, hl, hi, hok⟩ := S1.list hm
  have hil := hi.length
  refine wpAny_list_append_plain ⟨n, hl⟩ (fun h5 hl5 hs5 => ?_) (by rw [size_line, List.size_toArray, hil]; omega)
  obtain ⟨q5, hl5⟩ := hl5
  have e5 : its.toArray.push (Value.int z t) = (its ++ [Value.int z t]).toArray := by simp
  rw [e5] at hl5
  obtain ⟨S2, X2⟩ := S1.mut (tk := s1.toks) hs5 hl5 (ints_push hi) hok
  exact ⟨none, _, some x, a, .next, S2, (Ext.of_keeps K1).trans X2, hP⟩

/-! ### such a list made -/
def EvF (c : Fx) (m : Loc) (e : Expr) (l : List Int) : Prop :=
  ∀ (s : Shared) (a : Addr), St c m none a s → ∀ (Q : Value → Shared → Prop) (E : Value → Shared → Prop),
    (∀ b n its s', Keeps s s' → s.heap.get? b = none → c.any b → IsL s'.heap b (List.toArray its) n → IntsAre its l → Q (.ref b) s') → wpAny c.M c.A (eval e c.env) Q E s
theorem get?_size {s s' : Shared} (K : Keeps s s') : s.heap.get? s'.heap.objs.size = none := by
  obtain ⟨h, t, rfl, hk⟩ := K
  cases e : s.heap.get? h.objs.size with
  | none => rfl
  | some o => exact absurd (Heap.lt_size (hk _ _ e)) (Nat.lt_irrefl _)
theorem EvF.nil {pos : Pos} : EvF c m (.List [] pos) [] := by
  intro s a S Q E hQ
  refine List_ (EvL.nil pos s a S _ E fun us s1 K1 r1 => ?_)
  cases r1
  refine wpAny_newObj_type (hQ _ 0 [] _ (ktrans K1 (kpush s1 _)) (get?_size K1) ((S.keeps K1).fresh _ (Nat.le_refl _)).1 (Heap.get?_push_size _ rfl) .nil) (by show (0 : Nat) ≤ sizeLine; exact Nat.zero_le _)
theorem EvF.rep {l r : Expr} {pos : Pos} {x : Int} {n : Nat} (h1 : Ev c m none l (IL [x])) (h2 : Ev c m none r (.int (n : Nat))) (hn : n ≤ 16777216) : EvF c m (.BinOp l .Mult r pos) (List.replicate n x) := by
  intro s a S Q E hQ
  refine wpAny_BinOp (h1 s a S _ E fun u1 s1 K1 r1 => h2 s1 a (S.keeps K1) _ E fun u2 s2 K2 r2 => ?_)
  have S2 := (S.keeps K1).keeps K2
  have r1 := r1.keeps K2
  obtain ⟨a, q, its, rfl, ha, hl, hr⟩ := rep_list r1
  obtain ⟨t', rfl⟩ := rep_int r2
  cases hr with
  | cons rx rn =>
  cases rn
  obtain ⟨tx, rfl⟩ := rep_int rx
  obtain ⟨N, hN⟩ : ∃ N : Int, N = (n : Int) := ⟨_, rfl⟩
  rw [← hN]
  refine wpAny_binaryOp_repeat_ref (T := "list") (U := "int") (by decide) ⟨_, hl, rfl⟩ (fun s' => typeIs_int s' N t') noFill_list_mul PySem.F.fills_int_mul PySem.F.slot_int_rmul repeat_list PySem.F.slot_int_index.lookup
    (call_meets PySem.F.slot_int_rmul (typeIs_int s2 N t') PySem.F.entry_int_rmul (PySem.F.args_int_rmul_2 _ _) (int___rmul___int_list N t' a _ q)
      ⟨hl, rfl, ⟨_, hl, rfl⟩, call_meets PySem.F.slot_list_mul ⟨_, hl, rfl⟩ PySem.F.entry_list_mul (PySem.F.args_list_mul_2 _ _)
        (AutoListH.list___mul___list_int_3 a _ q N t' (by simp [Builtin.List.listFitsIndex]; omega) (by simp; omega) (by simp [Builtin.List.listTooLong, sizeLine]; omega))
        ⟨hl, ?_⟩⟩)
  refine hQ _ 0 (List.replicate n (.int x tx)) _ (ktrans (ktrans K1 K2) (kpush s2 _)) (get?_size (ktrans K1 K2)) (S2.fresh _ (Nat.le_refl _)).1 ?_ ?_
  · have e := foldl_one (.int x tx) n []
    rw [List.nil_append] at e
    show (s2.heap.push { cls := Value.type "list", data := Data.seq (List.foldl (fun x1 x2 => x1 ++ x2) #[] (List.replicate N.toNat #[Value.int x tx])) }).get? s2.heap.objs.size = _
    rw [hN, Int.toNat_natCast, e]
    exact Heap.get?_push_size _ rfl
  · clear hQ h2 hn r2 hN
    induction n with
    | zero => exact .nil
    | succ n ih => exact .cons _ _ ih
theorem Ex1.make {x : PySem.Str} {p pos : Pos} {e : Expr} {l : List Int} {P : Option PV → Loc → Option PySem.Str → Prop} (h : EvF c m e l) (hk : c.env.kindOf x = some .local)
    (hs : swapsWith e (some (.Name x p)) pos.line c.env = pure false) (hP : P none (upd m x (IL l)) (some x)) : Ex1 c m none (.Assign [.Name x p] e pos) P := by
  intro s a E S
  refine wpAny_Assign_Name (h s a S _ E fun b n its s1 K1 hb hok hl hi => ?_) hs
  have S1 := S.keeps K1
  have hIn := S.in
  obtain ⟨mv0, F0, H0, _⟩ := S.ex
  have hLb : b ≠ c.env.locals := fun z => by obtain ⟨o, _, _, e, _⟩ := F0.ns; rw [← z, hb] at e; cases e
  have hb0 : c.h₀.get? b = none := by
    cases z : c.h₀.get? b with
    | none => rfl
    | some o => have := hIn _ _ z; rw [hb] at this; cases this
  have old : ∀ b' o, s.heap.get? b' = some o → b' ≠ b := fun b' o e z => by rw [z, hb] at e; cases e
  obtain ⟨h1, t1, rfl, hk1⟩ := K1
  obtain ⟨oL, es, ep, hL, hd⟩ := Fr.dict (Fr.grow F0 hk1)
  refine wpAny_storeName_local hk (Fr.grow F0 hk1).ns (fun h' hn hs => ?_) (by rw [c.kind]; rfl)
  have keep : ∀ b o, b ≠ c.env.locals → h1.get? b = some o → h'.get? b = some o := fun b o hb e => (hs.2 b hb).trans e
  refine ⟨none, _, some x, b, .next, ⟨_, (Fr.grow F0 hk1).set hn hs, fun y w e => ?_, fun y e => ?_⟩, ⟨⟨_, _, rfl⟩, fun b' o hb' _ e => keep b' o hb' (hk1 b' o e), fun b' o e => ?_, fun q => .inr hb⟩, hP⟩
  · by_cases hy : y = x
    · subst hy
      rw [upd_same] at e
      cases e
      exact ⟨.ref b, if_pos rfl, by rw [if_pos rfl]; exact ⟨rfl, .list hok (keep _ _ hLb hl) (ints_rep hi)⟩⟩
    · rw [upd_ne hy rfl] at e
      obtain ⟨u', z1, z2⟩ := H0 y w e
      refine ⟨u', (if_neg hy).trans z1, ?_⟩
      have : ¬ some x = some y := fun z => hy (Option.some.inj z).symm
      rw [if_neg this]
      rw [if_neg (by simp)] at z2
      exact z2.map fun b' o hb' e hq => ⟨keep b' o (not_dict hL hd (hk1 _ _ e) hq) (hk1 _ _ e), hb'.1, fun _ => old b' o e⟩
  · cases e
    exact ⟨if_pos rfl, hb0, hLb, _, n, keep _ _ hLb hl⟩
  · by_cases hb' : b' = c.env.locals
    · obtain ⟨o', _, _, e', _⟩ := hn
      exact ⟨o', hb' ▸ e'⟩
    · exact ⟨o, keep b' o hb' (hk1 _ _ e)⟩
/-- x.pop() -/
theorem ints_dropLast : ∀ {its : List Value} {l : List Int}, IntsAre its l → IntsAre its.dropLast l.dropLast
  | _, _, .nil => .nil
  | _, _, .cons _ _ .nil => .nil
  | _, _, .cons _ _ (.cons _ _ q) => .cons _ _ (ints_dropLast (.cons _ _ q))
theorem Ex1.pop {x : PySem.Str} {np apos pos spos : Pos} {l : List Int} {P : Option PV → Loc → Option PySem.Str → Prop} (hm : m x = some (IL l)) (hne : l ≠ []) (hlen : l.length ≤ 16000000)
    (hk : c.env.kindOf x = some .local) (hd : (x == ("__debug__" : PySem.Str)) = false)
    (he : ∃ pl : Sem Bool, eval (.Call (.Attribute (.Name x np) "pop" apos) [] [] pos) c.env = (do
      let ov ← eval (.Name x np) c.env
      standAt apos.atName
      let (f, first) ← holding [ov] (getMethod ov "pop" pl)
      callWith pos f first (backTo pos (starEach [] c.env)) []))
    (hi : interactive c.env = false) (hsw : swapsWith (.Call (.Attribute (.Name x np) "pop" apos) [] [] pos) none spos.line c.env = pure false)
    (hP : P none (upd m x (IL l.dropLast)) (some x)) : Ex1 c m (some x) (.Expr (.Call (.Attribute (.Name x np) "pop" apos) [] [] pos) spos) P := by
  intro s a E S
  obtain ⟨pl, he⟩ := he
  refine wpAny_Expr_any (MethodCall_ (pl := pl) (S.ld hk hd ?_) he) hi hsw
  obtain ⟨its, n, hl, hi, hok⟩ := S.list hm
  have hil := hi.length
  have hp := List.length_pos_iff.mpr hne
  refine getMethod_list_of PySem.F.slot_list_pop PySem.F.type_list_pop hl.isList ⟨_, hl, rfl⟩ ?_
  refine _root_.PySem.P.pop_list hl (y := its[its.length - 1]'(by omega)) (by simp) ?_ (by rw [size_line, List.size_toArray, hil]; omega)
  obtain ⟨n', hl'⟩ := isL_update hl fun xs => xs.eraseIdxIfInBounds (its.toArray.size - 1)
  have e5 : its.toArray.eraseIdxIfInBounds (its.toArray.size - 1) = its.dropLast.toArray := by
    have : its.length - 1 < its.length := by omega
    simp [Array.eraseIdxIfInBounds, this, List.eraseIdx_length_sub_one]
  rw [e5] at hl'
  obtain ⟨S2, X2⟩ := S.mut (tk := s.toks) (Heap.SameBut.update ..) hl' (ints_dropLast hi) hok
  exact ⟨none, _, some x, a, .next, S2, X2, hP⟩

/-- the item stored, and the heap that it leaves -/
theorem setItem_exact {prog : Program} {w : World} {A : Around} {E : Value → Shared → Prop} {s : Shared} {l : Addr} {items : Array Value} {n : Nat} {k : Int} {t : Tok} {v : Value} {Q : Unit → Shared → Prop} (hl : IsL s.heap l items n)
    (h0 : 0 ≤ k) (hfit : k < 2 ^ 63) (hn : k < items.size) (hQ : Q () { s with heap := s.heap.update l (Obj.mapSeq (·.setIfInBounds k.toNat v)) }) :
    wpAny (model prog w) A (setItem (.ref l) (.int k t) v) Q E s := by
  obtain ⟨o, ho, hc, ne, hd⟩ := id hl.isList
  have ho' : o = _ := Option.some.inj (ho.symm.trans hl)
  have hil := hl.isList
  unfold setItem
  try with_reducible refine wpAny_holding ?_
  first | refine wpAny_bind (wpAny_pure ?_) | skip
  refine wpAny_bind (wpAny_sequenceKey hil.typeIs (by decide) ?_)
  refine wpAny_bind (wpAny_callSpecial?_slot (name := PySem.Str.ofString "__setitem__") hil.typeIs slot_list_setitem
    (wpAny_call_entry slot_list_setitem hil.typeIs entry_list_setitem ?_ (args_list_setitem _ _ _)))
  show wpAny _ _ (Builtin.List.listSubscript? (.int k t) >>= _) _ _ s
  refine wpAny_bind (wpAny_listSubscript_int (fitsIndex_of h0 hfit) ?_)
  clear hfit
  obtain ⟨j, rfl⟩ := Int.eq_ofNat_of_zero_le h0
  have hj : j < items.size := by omega
  have hx' : items[j]? = some items[j] := Array.getElem?_eq_getElem hj
  show wpAny _ _ ((seqItemAt l j >>= fun r => pure (r.map (j, ·))) >>= _) _ _ s
  refine wpAny_bind (wpAny_bind (wpAny_seqItemAt ho hd (wpAny_pure ?_)))
  rw [hx']
  show wpAny _ _ (setSeqItemAt l j v >>= _) _ _ s
  refine wpAny_bind (wpAny_setSeqItemAt ho hd ?_)
  first
    | exact wpAny_bind (wpAny_pure (wpAny_pure ⟨.none, rfl, wpAny_pure hQ⟩))
    | exact wpAny_pure ⟨.none, rfl, wpAny_pure hQ⟩
theorem ints_set : ∀ {its : List Value} {l : List Int} (j : Nat) {z : Int} {t : Tok}, IntsAre its l → IntsAre (its.set j (.int z t)) (l.set j z)
  | _, _, _, _, _, .nil => .nil
  | _, _, 0, _, _, .cons _ _ q => .cons _ _ q
  | _, _, j + 1, _, _, .cons _ _ q => .cons _ _ (ints_set j q)
/-- x[i] += e -/
theorem Ex1.augItem {x : PySem.Str} {np spos pos : Pos} {i e : Expr} {l : List Int} {j : Nat} {v : Int} {P : Option PV → Loc → Option PySem.Str → Prop} (hm : m x = some (IL l)) (h1 : Ev c m (some x) i (.int (j : Nat))) (h2 : Ev c m (some x) e (.int v)) (hj : j < l.length) (hlen : l.length ≤ 16000000)
    (hk : c.env.kindOf x = some .local) (hd : (x == ("__debug__" : PySem.Str)) = false)
    (ha : ∀ ov iv new, augStore i ov iv new = (do holding [new, ov, iv] (setItem ov iv new); release [new, ov, iv] []; pure .next))
    (hP : P none (upd m x (IL (l.set j (l.getD j 0 + v)))) (some x)) : Ex1 c m (some x) (.AugAssign (.Subscript (.Name x np) i spos) .Add e pos) P := by
  intro s a E S
  refine wpAny_AugAssign_Subscript_any (S.ld hk hd ?_) ha
  refine h1 s a S _ _ fun u s1 K1 r1 => ?_
  obtain ⟨t, rfl⟩ := rep_int r1
  have S1 := S.keeps K1
  obtain ⟨its, n, hl, hi, hok⟩ := S1.list hm
  have hx : at? (l.map PV.int) (j : Int) = some (.int (l.getD j 0)) := by
    have := at_ints (l := l) (i := (j : Int)) (by omega) (by omega)
    rwa [Int.toNat_natCast] at this
  refine getItem_list (c := c) (ok := c.any) hl (ints_rep hi) hx (by simp; omega) _ _ fun old s2 K2 r2 => ?_
  obtain ⟨t2, rfl⟩ := rep_int r2
  refine h2 s2 a (S1.keeps K2) _ _ fun u3 s3 K3 r3 => ?_
  obtain ⟨t3, rfl⟩ := rep_int r3
  refine wpAny_iadd_int ?_
  have K4 : Keeps s { s3 with toks := s3.toks + 1 } := ktrans (ktrans (ktrans K1 K2) K3) (ktoks s3 _)
  have S4 := S.keeps K4
  obtain ⟨its, n, hl, hi, hok⟩ := S4.list hm
  have hil := hi.length
  refine setItem_exact hl (by omega) (by omega) (by rw [List.size_toArray, hil]; omega) ?_
  rw [Int.toNat_natCast]
  obtain ⟨n', hl'⟩ := isL_update hl fun xs => xs.setIfInBounds j (.int (l.getD j 0 + v) s3.toks)
  have e5 : its.toArray.setIfInBounds j (.int (l.getD j 0 + v) s3.toks) = (its.set j (.int (l.getD j 0 + v) s3.toks)).toArray := by simp
  rw [e5] at hl'
  obtain ⟨S5, X5⟩ := S4.mut (tk := s3.toks + 1) (Heap.SameBut.update ..) hl' (ints_set j hi) hok
  exact ⟨none, _, some x, a, .next, S5, (Ext.of_keeps K4).trans X5, hP⟩

/-! ## every third -/
theorem pick_mem {α : Type} {xs : List α} {lo hi st : Option Int} {z : α} (h : z ∈ pick xs lo hi st) : z ∈ xs := by
  unfold pick at h
  obtain ⟨i, _, e⟩ := List.mem_filterMap.mp h
  exact List.mem_of_getElem? e
theorem pick_len {xs : List Int} {lo hi st : Option Int} : (pick xs lo hi st).length ≤ xs.length := by
  have := slicePick_size_le (xs.map fun z => Value.int z 0).toArray lo hi st
  have e : (slicePick (xs.map fun z => Value.int z 0).toArray lo hi st) = (pick (xs.map fun z => Value.int z 0) lo hi st).toArray := by
    unfold slicePick pick
    simp
  rw [e, pick_map, List.size_toArray, List.length_map, List.size_toArray, List.length_map] at this
  exact this
theorem Ev.third {e l : Expr} {p pos q : Pos} {n : Nat} {ns : List Int} {lo : Int} (h0 : Ev c m k e (IL ns)) (h1 : Ev c m k l (.int lo)) (hlen : ns.length ≤ 16777216) :
    Ev c m k (.Subscript e (.Slice (some l) none (some (.Constant (.int 3) n q)) p) pos) (IL (pick ns (some lo) none (some 3))) :=
  Ev.cast (Ev.slice (xs := ns.map PV.int) (sp := some 3) h0 (.some h1) .none (.some Ev.cint) (by decide) (by simpa using hlen)) (by rw [pick_map])
end Mine

set_option maxRecDepth 100000
set_option linter.unusedVariables false
namespace Mine
open PySem PySem.W PyProof.Rows PySem.Calls
open PySem.Builtin
variable {c : Fx} {m : Loc} {k : Option PySem.Str}

theorem take_eq {id : String} {b : Array UInt8} {t : Tok} : Bytes.takeBufferQuiet? id (.bytes b t) 0 = pure (some (b, none)) := by
  have e : ∀ f : Bool, Bytes.buffer? id (.bytes b t) f = pure (some b) := fun f => by
    unfold Bytes.buffer?
    rw [KBy.special_eq KBy.look_buffer, KBy.own_buffer, KBy.own_release]
    kernel_rfl
  unfold Bytes.takeBufferQuiet? Bytes.takeBuffer?
  rw [KBy.special_eq KBy.look_buffer, KBy.own_buffer, e]
  kernel_rfl
theorem letGo_all {M : Model} {A : Around} {E : Value → Shared → Prop} {s : Shared} {keep : List Value} {Q : Unit → Shared → Prop} : ∀ (bs : List (Array UInt8 × Tok)), Q () s → wpAny M A (Bytes.joinLetGo (bs.map fun x => (Value.bytes x.1 x.2, none)) keep) Q E s
  | [], h => wpAny_pure h
  | x :: r, h => by
    rw [List.map_cons]
    unfold Bytes.joinLetGo
    dsimp only
    refine wpAny_bind (wpAny_letGo (letGo_all r h))
theorem join_fold : ∀ (ps : List (Array UInt8)) (i : Nat) (out : Array UInt8), (ps.zipIdx i).foldl (fun out (x : Array UInt8 × Nat) => (if x.2 > 0 then out ++ (#[] : Array UInt8) else out) ++ x.1) out = out ++ ps.toArray.flatten
  | [], i, out => by simp
  | p :: r, i, out => by
    rw [List.zipIdx_cons, List.foldl_cons, join_fold r]
    apply Array.toList_inj.mp
    simp
theorem size_fold : ∀ (ps : List (Array UInt8)) (z : Nat), ps.toArray.foldl (fun x y => x + y.size) z = z + ps.toArray.flatten.size
  | [], z => by simp
  | p :: r, z => by
    have := size_fold r (z + p.size)
    simp at this ⊢
    omega
theorem join_tree {M : Model} {A : Around} {E : Value → Shared → Prop} {s : Shared} {t : Tok} {l : Addr} {n : Nat} {bs : List (Array UInt8 × Tok)} {P : Fin → Shared → Prop} (hl : IsL s.heap l (bs.map fun x => Value.bytes x.1 x.2).toArray n) 
    (h : ∀ u tk, P (.done (.ret (.bytes (bs.map (·.1)).toArray.flatten u))) { s with toks := tk }) (hsz : (bs.map (·.1)).toArray.flatten.size ≤ 16777216) :
    wpAny M A (Builtin.«bytes.join» ⟨[.bytes #[] t, .ref l], []⟩) P E s := by
  obtain ⟨its, hits⟩ : ∃ its, its = (bs.map fun x => Value.bytes x.1 x.2).toArray := ⟨_, rfl⟩
  rw [← hits] at hl
  have hsize : its.size = bs.length := by rw [hits]; simp
  have hget : ∀ i (hi : i < bs.length), its.getD i .none = Value.bytes bs[i].1 bs[i].2 := fun i hi => by rw [hits]; simp [hi]
  show wpAny _ _ (Bytes.joinM .bytes ⟨[.bytes #[] t, .ref l], []⟩) _ _ _
  unfold Bytes.joinM
  dsimp only
  refine wpAny_bind (wpAny_of_eq (a := (.bytes #[] t, .ref l)) rfl ?_)
  dsimp only
  refine wpAny_bind ?_
  have items : ∀ {Q : Option (Array Value) → Shared → Prop}, Q (some its) s → wpAny M A (seqItems? (.ref l)) Q E s := fun hq => wpAny_seqItems hl rfl hq
  unfold Bytes.joinItems
  refine wpAny_bind (wpAny_typeOf hl.isList.typeIs ?_)
  rw [if_pos (by decide)]
  refine wpAny_pure ?_
  refine wpAny_bind (items ?_)
  dsimp only
  rw [if_pos (by decide)]
  obtain ⟨L, hL⟩ : ∃ L : List Value, its = L.toArray := ⟨its.toList, by simp⟩
  rw [hL] at hsize hget items
  rw [hL]
  clear hits hl hL
  match L, hsize, hget, @items with
  | [x], hsize, hget, items =>
    show wpAny M A (typeOf x >>= fun ty => _) _ _ _
    have h1 : bs.length = 1 := by rw [← hsize]; rfl
    have hx := hget 0 (by omega)
    have hx : x = Value.bytes bs[0].1 bs[0].2 := hx
    rw [hx]
    refine wpAny_bind (wpAny_typeOf (PySem.W.typeIs_bytes _ _ _) ?_)
    rw [if_pos (by decide)]
    refine wpAny_bind (wpAny_rule ?_)
    have hb : (bs.map (·.1)).toArray.flatten = bs[0].1 := by
      clear hx hget items h hsz
      obtain ⟨y, hy⟩ := List.length_eq_one_iff.mp h1
      subst hy
      simp
    rw [hb] at h
    exact wpAny_pure (h _ s.toks)
  | [], hsize, hget, items =>
    show wpAny M A (forIn _ _ _ >>= fun r => _) _ _ _
    refine wpAny_bind ?_
    rw [Std.Legacy.Range.forIn_eq_forIn_range']
    refine wpAny_forIn_list _ (fun rest st s' => ∃ i, i ≤ bs.length ∧ rest = List.range' i (bs.length - i) ∧ st = (((bs.take i).map (·.1)).toArray, (bs.take i).map fun x => (Value.bytes x.1 x.2, none)) ∧ s' = s) _ ?_ ?_ _ _ ⟨0, Nat.zero_le _, by simp [Std.Legacy.Range.size, hsize], rfl, rfl⟩
    · rintro x rest st s' ⟨i, hi, hr, rfl, rfl⟩
      have hlt : i < bs.length := by
        rcases Nat.lt_or_ge i bs.length with q | q
        · exact q
        · rw [show bs.length - i = 0 by omega] at hr; simp at hr
      rw [show bs.length - i = (bs.length - (i + 1)) + 1 by omega, List.range'_succ] at hr
      obtain ⟨rfl, rfl⟩ := List.cons.inj hr
      refine wpAny_bind (items ?_)
      dsimp only
      have hany : ((bs.take x).map fun x => (Value.bytes x.1 x.2, (none : Option Value))).any (fun y => y.1.onHeap) = false := by
        rw [List.any_map, List.any_eq_false]
        intro y _ q
        cases q
      rw [if_neg (by rw [hany]; decide)]
      refine wpAny_bind (wpAny_holding ?_)
      rw [hget x hlt]
      refine wpAny_of_eq take_eq ?_
      dsimp only
      refine wpAny_bind (items ?_)
      dsimp only
      rw [if_neg (by simp)]
      refine wpAny_pure ⟨x + 1, hlt, rfl, ?_, rfl⟩
      have e : bs.take (x + 1) = bs.take x ++ [bs[x]] := by rw [List.take_add_one]; simp [hlt]
      rw [e, List.map_append, List.map_append, List.map_singleton, List.map_singleton, List.push_toArray]
    · rintro st s' ⟨i, hi, hr, rfl, rfl⟩
      have hie : i = bs.length := by
        have := congrArg List.length hr
        simp at this; omega
      subst hie
      rw [List.take_length]
      dsimp only
      refine wpAny_bind (wpAny_of_eq (a := (#[] : Array UInt8)) rfl ?_)
      rw [if_neg (by
        have e : Array.foldl (fun x y => x + y.size) (Array.size (#[] : Array UInt8) * ((bs.map (·.1)).toArray.size - 1)) (bs.map (·.1)).toArray = (bs.map (·.1)).toArray.flatten.size := by
          rw [size_fold]; simp
        rw [e, KBy.tooLong_not hsz]; decide)]
      have ej : Bytes.joined #[] (bs.map (·.1)).toArray.toList = (bs.map (·.1)).toArray.flatten := by
        have := join_fold (bs.map (·.1)) 0 #[]
        unfold Bytes.joined
        simpa using this
      rw [ej]
      show wpAny M A (mkBytes _ >>= fun r => _) _ _ _
      refine wpAny_bind (wpAny_mkBytes ?_ (by rw [size_line]; exact hsz))
      refine wpAny_bind (wpAny_holding (wpAny_point ?_))
      refine wpAny_bind (letGo_all bs ?_)
      exact wpAny_pure (h _ _)
  | a :: b :: r, hsize, hget, items =>
    show wpAny M A (forIn _ _ _ >>= fun r => _) _ _ _
    refine wpAny_bind ?_
    rw [Std.Legacy.Range.forIn_eq_forIn_range']
    refine wpAny_forIn_list _ (fun rest st s' => ∃ i, i ≤ bs.length ∧ rest = List.range' i (bs.length - i) ∧ st = (((bs.take i).map (·.1)).toArray, (bs.take i).map fun x => (Value.bytes x.1 x.2, none)) ∧ s' = s) _ ?_ ?_ _ _ ⟨0, Nat.zero_le _, by simp [Std.Legacy.Range.size, hsize], rfl, rfl⟩
    · rintro x rest st s' ⟨i, hi, hr, rfl, rfl⟩
      have hlt : i < bs.length := by
        rcases Nat.lt_or_ge i bs.length with q | q
        · exact q
        · rw [show bs.length - i = 0 by omega] at hr; simp at hr
      rw [show bs.length - i = (bs.length - (i + 1)) + 1 by omega, List.range'_succ] at hr
      obtain ⟨rfl, rfl⟩ := List.cons.inj hr
      refine wpAny_bind (items ?_)
      dsimp only
      have hany : ((bs.take x).map fun x => (Value.bytes x.1 x.2, (none : Option Value))).any (fun y => y.1.onHeap) = false := by
        rw [List.any_map, List.any_eq_false]
        intro y _ q
        cases q
      rw [if_neg (by rw [hany]; decide)]
      refine wpAny_bind (wpAny_holding ?_)
      rw [hget x hlt]
      refine wpAny_of_eq take_eq ?_
      dsimp only
      refine wpAny_bind (items ?_)
      dsimp only
      rw [if_neg (by simp)]
      refine wpAny_pure ⟨x + 1, hlt, rfl, ?_, rfl⟩
      have e : bs.take (x + 1) = bs.take x ++ [bs[x]] := by rw [List.take_add_one]; simp [hlt]
      rw [e, List.map_append, List.map_append, List.map_singleton, List.map_singleton, List.push_toArray]
    · rintro st s' ⟨i, hi, hr, rfl, rfl⟩
      have hie : i = bs.length := by
        have := congrArg List.length hr
        simp at this; omega
      subst hie
      rw [List.take_length]
      dsimp only
      refine wpAny_bind (wpAny_of_eq (a := (#[] : Array UInt8)) rfl ?_)
      rw [if_neg (by
        have e : Array.foldl (fun x y => x + y.size) (Array.size (#[] : Array UInt8) * ((bs.map (·.1)).toArray.size - 1)) (bs.map (·.1)).toArray = (bs.map (·.1)).toArray.flatten.size := by
          rw [size_fold]; simp
        rw [e, KBy.tooLong_not hsz]; decide)]
      have ej : Bytes.joined #[] (bs.map (·.1)).toArray.toList = (bs.map (·.1)).toArray.flatten := by
        have := join_fold (bs.map (·.1)) 0 #[]
        unfold Bytes.joined
        simpa using this
      rw [ej]
      show wpAny M A (mkBytes _ >>= fun r => _) _ _ _
      refine wpAny_bind (wpAny_mkBytes ?_ (by rw [size_line]; exact hsz))
      refine wpAny_bind (wpAny_holding (wpAny_point ?_))
      refine wpAny_bind (letGo_all bs ?_)
      exact wpAny_pure (h _ _)
theorem slot_join : Slot "bytes" "join" "bytes.join" :=
  .of (owner := "bytes") (n := "join") (by rw [typeLookup_type, builtinLookup_eq_fast]; kernel_rfl) (by decide +kernel) (by decide +kernel) (by decide +kernel)
    (by first | exact .inl (by decide +kernel) | exact .inr (by decide +kernel)) (by rw [isSubtype_type]; kernel_rfl)
theorem type_join : typeOf (.builtin "bytes.join") = pure (.type "method_descriptor") := by show builtinType _ = _; rw [builtinType_eq_fast]; kernel_rfl
theorem entry_join : entryFor table "bytes.join" = some Builtin.«bytes.join» := entryFor_of_tree (by kernel_rfl)
theorem args_join (a b : Value) : argsOk "bytes.join" ⟨[a, b], []⟩ := by unfold argsOk; kernel_rfl
theorem reps_bytes {h : Heap} {ok : Addr → Prop} : ∀ {bs : List (List UInt8)} {vs : List Value}, RepAll h ok vs (bs.map PV.bytes) → ∃ ps : List (Array UInt8 × Tok), vs = ps.map (fun x => Value.bytes x.1 x.2) ∧ ps.map (·.1) = bs.map List.toArray
  | [], _, .nil => ⟨[], rfl, rfl⟩
  | b :: bs, _, .cons r q => by
    obtain ⟨t, rfl⟩ := rep_bytes r
    obtain ⟨ps, rfl, e⟩ := reps_bytes q
    exact ⟨(b.toArray, t) :: ps, rfl, by rw [List.map_cons, List.map_cons, e]⟩
/-- b''.join(e) -/
theorem Ev.join {e : Expr} {n : Nat} {cpos apos pos : Pos} {bs : List (List UInt8)} (h : Ev c m k e (.list (bs.map PV.bytes))) (hsz : bs.flatten.length ≤ 16777216)
    (he : ∃ pl : Sem Bool, eval (.Call (.Attribute (.Constant (.bytes []) n cpos) "join" apos) [e] [] pos) c.env = (do
      let ov ← eval (.Constant (.bytes []) n cpos) c.env
      standAt apos.atName
      let (f, first) ← holding [ov] (getMethod ov "join" pl)
      callWith pos f first (backTo pos (starEach [e] c.env)) []))
    (he' : starEach [e] c.env = [(false, eval e c.env)]) : Ev c m k (.Call (.Attribute (.Constant (.bytes []) n cpos) "join" apos) [e] [] pos) (.bytes bs.flatten) := by
  intro s a S Q E hQ
  obtain ⟨pl, he⟩ := he
  refine MethodCall_ (pl := pl) (Constant_bytes ?_) he
  refine getMethod_builtin (PySem.W.typeIs_bytes _ _ _) FB.plainAttrs_bytes slot_join type_join (fun a e => by cases e) (callWith_method1 ?_ he' rfl)
  refine args_cons (h _ a (S.keeps (ktoks s _)) _ _ fun u s1 K1 r1 => args_nil ?_) he'
  obtain ⟨l, q, its, rfl, ha, hl, hr⟩ := rep_list r1
  obtain ⟨ps, rfl, e2⟩ := reps_bytes hr
  have e3 : (ps.map (·.1)).toArray.flatten = bs.flatten.toArray := by rw [e2]; simp
  refine wpAny_call_entry slot_join (PySem.W.typeIs_bytes _ _ _) entry_join (join_tree hl (fun u tk => ⟨_, rfl, hQ _ _ (ktrans (ktrans (ktoks s _) K1) (ktoks s1 _)) ?_⟩) (by rw [e3]; simpa using hsz)) (args_join _ _)
  rw [e3]; exact .bytes _ _
theorem is_type_same {M : Model} {A : Around} {E : Value → Shared → Prop} {s : Shared} {X : String} {Q : Value → Shared → Prop} (h : Q (.bool true) s) : wpAny M A (compareOp .Is (.type X) (.type X)) Q E s := by
  have e : (Value.type X == Value.type X) = true := by simp
  exact wpAny_pure (a := Value.bool (Value.type X == Value.type X)) (by rw [e]; exact h)
/-- type(e) is bytes, where e is some -/
theorem Ev.isBytes {np np' pos pos' : Pos} {e : Expr} {b : List UInt8} (h1 : EvW c m k e (.bytes b)) (hk : c.env.kindOf "type" = some .globalImplicit) (hk' : c.env.kindOf "bytes" = some .globalImplicit) (he : starEach [e] c.env = [(false, eval e c.env)]) :
    Ev c m k (.Compare (.Call (.Name "type" np) [e] [] pos) [.Is] [.Name "bytes" np'] pos') (.bool true) := by
  intro s a S Q E hQ
  refine wpAny_Compare1 (call1T S (by simp) boot_type hk h1 he fun u s1 K1 r1 => ?_) (by rfl)
  obtain ⟨t, rfl⟩ := rep_bytes r1
  refine call_type_of (PySem.W.typeIs_bytes _ _ _) (by decide) (ld_free (S.keeps K1).in (by simp) boot_bytes hk' (is_type_same (hQ _ s1 K1 (.bool true))))
end Mine

namespace Mine
open PySem PySem.W PyProof.Rows PySem.Calls
open PySem.Builtin.Int (intBits)
variable {c : Fx} {m : Loc} {k : Option PySem.Str}
theorem kindOf_eq {n : PySem.Str} {sc : Scope} {L f : Addr} {cd : Value} {x : PySem.Str} (hE : c.env = envOf n sc L f cd) : c.env.kindOf x = sc.names.lookup x := by rw [hE]; rfl


local macro_rules | `(tactic| walk_at "m lk") => `(tactic| first | (with_reducible assumption) | exact upd_same _ _ _ | (refine upd_ne (by decide) ?_; walk_at "m lk") | exact rfl)
local macro_rules | `(tactic| walk_at "m kd") => `(tactic| exact (kindOf_eq (by with_reducible assumption)).trans rfl)
local macro_rules | `(tactic| walk_at "m nm") => `(tactic| ((with_reducible apply Ev.name); (case hv => walk_at "m lk"); (case hx => first | (intro h; cases h; done) | decide); (case hl => walk_at "m kd"); (case hd => decide)))
local macro_rules | `(tactic| walk_at "m side") => `(tactic| first | (with_reducible assumption) | exact pow_pos _ | omega | exact IntMulOk.of_left (by decide) | exact IntMulOk.of_right (by decide) | decide | (simp only [List.length_append, List.length_replicate, List.length_cons, List.length_nil, List.length_map, List.length_take, List.length_drop] at *; omega))
local macro_rules | `(tactic| walk_at "m bin") => `(tactic| first
  | with_reducible exact Bin.add | with_reducible exact Bin.sub | with_reducible exact Bin.and | with_reducible exact Bin.rshift
  | ((with_reducible refine Bin.floordiv ?_); walk_at "m side") | ((with_reducible refine Bin.mod ?_); walk_at "m side") | ((with_reducible refine Bin.pow256 ?_); walk_at "m side") | ((with_reducible refine Bin.mul ?_); walk_at "m side")
  | ((with_reducible refine Bin.addB ?_); walk_at "m side") | ((with_reducible refine Bin.mulB ?_ ?_) <;> walk_at "m side") | (refine Bin.addL ?_; walk_at "m side") | (refine Bin.mulL ?_ ?_ <;> walk_at "m side"))
local macro_rules | `(tactic| walk_at "m ibin") => `(tactic| first | exact IBin.add | exact IBin.sub | (refine IBin.mul ?_; walk_at "m side"))
local macro_rules | `(tactic| walk_at "m cmp") => `(tactic| first | with_reducible exact Cmp.eq | with_reducible exact Cmp.ne | with_reducible exact Cmp.lt | with_reducible exact Cmp.le | with_reducible exact Cmp.gt | with_reducible exact Cmp.eqBool | with_reducible exact Cmp.neBool | with_reducible exact Cmp.eqBytes | with_reducible exact Cmp.neBytes)
local macro_rules | `(tactic| walk_at "m part") => `(tactic| first | with_reducible exact EvP.none | ((with_reducible apply EvP.some); walk_at "m ev"))
local macro_rules | `(tactic| walk_at "m ev") => `(tactic| first
  | with_reducible exact Ev.cint | with_reducible exact Ev.cbool | with_reducible exact Ev.cbytes
  | walk_at "m nm"
  | ((with_reducible apply Ev.usub); walk_at "m ev")
  | ((with_reducible apply Ev.bin); (case h1 => walk_at "m ev"); (case h2 => walk_at "m ev"); (case ho => walk_at "m bin"))
  | ((with_reducible apply Ev.cmp); (case h1 => apply Ev.w; walk_at "m ev"); (case h2 => apply Ev.w; walk_at "m ev"); (case ho => walk_at "m cmp"); (case hm => rfl))
  | ((with_reducible apply Ev.cmp2); (case h1 => walk_at "m ev"); (case h2 => walk_at "m ev"); (case h3 => walk_at "m ev"); (case ho => walk_at "m cmp"); (case ho' => walk_at "m cmp"); (case hm => rfl))
  | ((with_reducible apply Ev.and2); (case h1 => walk_at "m ev"); (case h2 => intro hc; (try simp only [decide_eq_true_eq] at hc); walk_at "m ev"))
  | ((with_reducible apply Ev.or2); (case h1 => walk_at "m ev"); (case h2 => intro hc; (try simp only [decide_eq_false_iff_not] at hc); walk_at "m ev"))
  | ((with_reducible apply Ev.not); walk_at "m ev")
  | ((with_reducible apply Ev.sliceB); (case h0 => walk_at "m ev"); (case h1 => walk_at "m part"); (case h2 => walk_at "m part"); (case hlen => walk_at "m side"))
  | ((with_reducible apply Ev.slice); (case h0 => walk_at "m ev"); (case h1 => walk_at "m part"); (case h2 => walk_at "m part"); (case h3 => walk_at "m part"); (case hz => decide); (case hlen => walk_at "m side"))
  | ((with_reducible apply Ev.itemB); (case h1 => walk_at "m ev"); (case h2 => walk_at "m ev"); (case h0 => walk_at "m side"); (case hj => walk_at "m side"); (case hlen => walk_at "m side"); (case hs => intro _ _; rfl))
  | ((with_reducible apply Ev.item); (case h1 => walk_at "m ev"); (case h2 => walk_at "m ev"); (case hx => first | exact at_ints (by walk_at "m side") (by walk_at "m side") | exact at_neg (by walk_at "m side") (by walk_at "m side")); (case hlen => walk_at "m side"); (case hs => intro _ _; rfl))
  | ((with_reducible apply Ev.lenB); (case h1 => apply Ev.w; walk_at "m ev"); (case hlen => walk_at "m side"); (case hk => walk_at "m kd"); (case he => rfl))
  | ((with_reducible apply Ev.len); (case h1 => apply Ev.w; walk_at "m ev"); (case hlen => walk_at "m side"); (case hk => walk_at "m kd"); (case he => rfl)))
local macro_rules | `(tactic| walk_at "m tst") => `(tactic| first
  | ((with_reducible apply Tst.isInt); (case h1 => apply Ev.w; walk_at "m ev"); (case hk => walk_at "m kd"); (case hk' => walk_at "m kd"); (case he => rfl))
  | ((with_reducible apply Tst.isBytes); (case h1 => apply Ev.w; walk_at "m ev"); (case hk => walk_at "m kd"); (case hk' => walk_at "m kd"); (case he => rfl))
  | ((with_reducible apply Tst.cmp); (case h1 => apply Ev.w; walk_at "m ev"); (case h2 => apply Ev.w; walk_at "m ev"); (case ho => walk_at "m cmp"); (case hm => rfl))
  | ((with_reducible apply Tst.not); walk_at "m tst")
  | ((with_reducible apply Tst.plain); (case h => walk_at "m ev"); (case he => rfl))
  | with_reducible exact Tst.and_nil | with_reducible exact Tst.or_nil
  | ((with_reducible apply Tst.and_cons); (case h1 => walk_at "m tst"); (case h2 => intro hc; (try simp only [decide_eq_true_eq] at hc); walk_at "m tst"))
  | ((with_reducible apply Tst.or_cons); (case h1 => walk_at "m tst"); (case h2 => intro hc; (try simp only [decide_eq_false_iff_not] at hc); walk_at "m tst")))
local macro_rules | `(tactic| walk_at "m nk") => `(tactic| first | (intro h; cases h; done) | decide)
local macro_rules | `(tactic| walk_at "m as") => `(tactic| ((refine' Ex.cons ?_); (apply Ex1.assign); (case h => walk_at "m ev"); (case hx => walk_at "m nk"); (case hl => walk_at "m kd"); (case hs => rfl); (show Ex _ _ _ _ _)))
local macro_rules | `(tactic| walk_at "m au") => `(tactic| ((refine' Ex.cons ?_); (apply Ex1.aug); (case h1 => walk_at "m lk"); (case h => walk_at "m ev"); (case ho => walk_at "m ibin"); (case hx => walk_at "m nk"); (case hl => walk_at "m kd"); (show Ex _ _ _ _ _)))
local macro_rules | `(tactic| walk_at "m kd") => `(tactic| first | exact (kindOf_eq (by with_reducible assumption)).trans rfl | exact (kindOf_comp (by with_reducible assumption)).trans rfl)
local macro_rules | `(tactic| walk_at "m bin") => `(tactic| first | ((with_reducible refine Bin.addI ?_); walk_at "m side") | ((with_reducible refine Bin.mulI ?_); walk_at "m side"))
local macro_rules | `(tactic| walk_at "m ev") => `(tactic| first
  | ((with_reducible apply Ev.revI); (case h0 => walk_at "m ev"); (case hlen => walk_at "m side"))
  | ((with_reducible apply Ev.butlastI); (case h0 => walk_at "m ev"); (case hlen => walk_at "m side"))
  | ((with_reducible apply Ev.uptoI); (case h0 => walk_at "m ev"); (case h1 => walk_at "m ev"); (case hlen => walk_at "m side"))
  | ((with_reducible apply Ev.fromI); (case h0 => walk_at "m ev"); (case h1 => walk_at "m ev"); (case hlen => walk_at "m side"))
  | with_reducible exact Ev.listI0
  | ((with_reducible apply Ev.listI1); (case h => walk_at "m ev"); (case he => rfl))
  | ((with_reducible apply Ev.bytes); (case h1 => apply Ev.w; walk_at "m ev"); (case hr => walk_at "m oct"); (case hlen => walk_at "m side"); (case hk => walk_at "m kd"); (case he => rfl)))
local macro_rules | `(tactic| walk_at "m oct") => `(tactic| first | with_reducible assumption | (intro z hz; apply ‹Oct _›; first | exact List.mem_of_mem_take hz | exact List.mem_of_mem_drop hz | exact hz))
local macro_rules | `(tactic| walk_at "m ev") => `(tactic| ((with_reducible apply Ev.lenI); (case h1 => apply Ev.w; walk_at "m ev"); (case hlen => walk_at "m side"); (case hk => walk_at "m kd"); (case he => rfl)))
local macro_rules | `(tactic| walk_at "m side") => `(tactic| (simp only [octs_length, List.length_append, List.length_replicate, List.length_cons, List.length_nil, List.length_map, List.length_take, List.length_drop, List.length_reverse, List.length_dropLast]; omega))
abbrev P : Program := PySem.Challenge.pw_dm0231_08
def encF : Fn := (fnsOf P).getD 0 ⟨"", default, [], default⟩
def decF : Fn := (fnsOf P).getD 1 ⟨"", default, [], default⟩
def fnRun : Fn := (fnsOf P).getD 2 ⟨"", default, [], default⟩
def fnJoined : Fn := (fnsOf P).getD 3 ⟨"", default, [], default⟩
def fnLeast : Fn := (fnsOf P).getD 4 ⟨"", default, [], default⟩
def lawF : Fn := (fnsOf P).getD 5 ⟨"", default, [], default⟩

theorem callable1 {d : Fn} (h1 : (d.params.args.map (·.arg)).length = 1) (h2 : ∀ (pm cd doc u : Value), bindArgs (Calls.docDef d.name d.params d.body d.scope pm cd doc) ⟨[u], []⟩ = pure ((d.params.args.map (·.arg)).zip [u]))
    (h3 : ((d.params.args.map (·.arg)).all fun x => decide (d.scope.names.lookup x = some .local)) = true) (h4 : d.scope.isCoroutine = false) (h5 : d.scope.isGenerator = false) (h6 : d.scope.kind = .function) (h7 : (d.scope.names.all fun x => decide (x.2 ≠ .cell)) = true) : Callable d 1 :=
  ⟨h1, fun pm cd doc us hu => by (obtain ⟨u, rfl⟩ := List.length_eq_one_iff.mp hu); exact h2 pm cd doc u, h3, h4, h5, h6, h7⟩
theorem callable2 {d : Fn} (h1 : (d.params.args.map (·.arg)).length = 2) (h2 : ∀ (pm cd doc u v : Value), bindArgs (Calls.docDef d.name d.params d.body d.scope pm cd doc) ⟨[u, v], []⟩ = pure ((d.params.args.map (·.arg)).zip [u, v]))
    (h3 : ((d.params.args.map (·.arg)).all fun x => decide (d.scope.names.lookup x = some .local)) = true) (h4 : d.scope.isCoroutine = false) (h5 : d.scope.isGenerator = false) (h6 : d.scope.kind = .function) (h7 : (d.scope.names.all fun x => decide (x.2 ≠ .cell)) = true) : Callable d 2 :=
  ⟨h1, fun pm cd doc us hu => by
    match us, hu with
    | [u, v], _ => exact h2 pm cd doc u v, h3, h4, h5, h6, h7⟩
theorem callable3 {d : Fn} (h1 : (d.params.args.map (·.arg)).length = 3) (h2 : ∀ (pm cd doc u v w : Value), bindArgs (Calls.docDef d.name d.params d.body d.scope pm cd doc) ⟨[u, v, w], []⟩ = pure ((d.params.args.map (·.arg)).zip [u, v, w]))
    (h3 : ((d.params.args.map (·.arg)).all fun x => decide (d.scope.names.lookup x = some .local)) = true) (h4 : d.scope.isCoroutine = false) (h5 : d.scope.isGenerator = false) (h6 : d.scope.kind = .function) (h7 : (d.scope.names.all fun x => decide (x.2 ≠ .cell)) = true) : Callable d 3 :=
  ⟨h1, fun pm cd doc us hu => by
    match us, hu with
    | [u, v, w], _ => exact h2 pm cd doc u v w, h3, h4, h5, h6, h7⟩
theorem dec_small {b : List UInt8} (h : b.length ≤ 4000000) : ¬ (decV b).natAbs.log2 ≥ bitsLine := by
  rw [decV_eq]
  have h1 := dec_fits b
  unfold Fits at h1
  have hp := pow_pos b.length
  have h2 : (dec b).natAbs < 256 ^ b.length := by
    apply Int.ofNat_lt.mp
    rw [cast_pow]; omega
  have hb : bitsLine = 134217728 := by decide
  by_cases hz : (dec b).natAbs = 0
  · rw [hz, hb]; decide
  · have h3 : (dec b).natAbs < 2 ^ (8 * b.length) := by rw [two_pow_8]; exact h2
    have h4 := (Nat.log2_lt hz).mpr h3
    omega

theorem dec_spec {fns : List Fn} {lv : Nat} (b : List UInt8) (h : b.length ≤ 4000000) : Spec fns lv decF [.bytes b] (.int (dec b)) := by
  rintro c hf hlv ⟨L, f, cd, hE⟩
  refine Ex.cons (Ex1.ret (Ev.w (Ev.cast (Ev.fromBytes (b := b) ?_ (dec_small h) ?_ rfl ⟨_, rfl⟩) (by rw [decV_eq]))) rfl)
  · walk_at "m nm"
  · walk_at "m kd"


theorem decC : Callable decF 1 := callable1 rfl (fun _ _ _ _ => rfl) (by decide) rfl rfl rfl (by decide)
theorem Ev.decode {e : Expr} {np pos : Pos} {b : List UInt8} (hf : c.fns = fnsOf P) (hlv : 0 < c.lv) (h : Ev c m k e (.bytes b)) (hb : b.length ≤ 4000000) (hk : c.env.kindOf "decode_long" = some .globalImplicit) (he : starEach [e] c.env = [(false, eval e c.env)]) :
    Ev c m k (.Call (.Name "decode_long" np) [e] [] pos) (.int (dec b)) :=
  Ev.call (d := decF) (vs := [.bytes b]) (by rw [hf]; exact List.mem_of_getElem? (i := 1) rfl) decC rfl (EvL.cons h EvL.nil he) hlv (dec_spec b hb) hk (by decide) he
local macro_rules | `(tactic| walk_at "m ev") => `(tactic| ((with_reducible apply Ev.decode); (case hf => with_reducible assumption); (case hlv => omega); (case h => walk_at "m ev"); (case hb => walk_at "m side"); (case hk => walk_at "m kd"); (case he => rfl)))
theorem and128 (n : Nat) (h : n < 256) : (Builtin.bitAnd (n : Int) 128 != 0) = decide (128 ≤ n) := by
  have : ∀ n : Fin 256, (Builtin.bitAnd ((n.val : Nat) : Int) 128 != 0) = decide (128 ≤ n.val) := by decide +kernel
  exact this ⟨n, h⟩
theorem enc_spec {fns : List Fn} {lv : Nat} (x : Int) (hb : intBits x ≤ 32000000) : Spec fns lv encF [.int x] (.bytes (enc x)) := by
  rintro c hf hlv ⟨L, f, cd, hE⟩
  refine Ex.cons (Ex1.ite (b := x == 0) ?_ ?_ ?_)
  · walk_at "m tst"
  · intro h
    have hx : x = 0 := by simpa using h
    subst hx
    refine Ex.cons (Ex1.ret (Ev.w (Ev.cast (v := .bytes []) ?_ ?_)) rfl)
    · walk_at "m ev"
    · simp [enc, wid, le]
  · intro h
    have hx : x ≠ 0 := by simpa using h
    refine Ex.nil (Ex.cons (Ex1.assign (v := .int ((intBits x / 8 + 1 : Nat) : Int)) ?_ (by simp) (by walk_at "m kd") rfl ?_))
    · refine Ev.cast (Ev.bin (v1 := .int ((intBits x : Int) / 2 ^ 3)) (Ev.bin (Ev.bitLength (x := x) ?_ ⟨_, rfl⟩) Ev.cint (Bin.rshift (n := 3))) Ev.cint Bin.add) ?_
      · walk_at "m nm"
      · congr 1
    refine Ex.cons (Ex1.assign (v := .bytes (le (intBits x / 8 + 1) x)) ?_ (by simp) (by walk_at "m kd") rfl ?_)
    · refine Ev.cast (Ev.toBytes (x := x) (n := intBits x / 8 + 1) ?_ ?_ (by omega) ?_ rfl ⟨_, rfl⟩) (by rw [low_eq])
      · walk_at "m nm"
      · walk_at "m nm"
      · have : intBits (if x < 0 then -x - 1 else x) ≤ intBits x := intBits_le_of_natAbs (by split <;> omega) (Nat.le_refl _)
        omega
    have hhi := abs_hi x
    have hlo := abs_lo hx
    have hbq : intBits x / 8 ≤ 4000000 := by omega
    have hw : wid x = if x < 0 ∧ 1 ≤ intBits x / 8 ∧ -256 ^ (intBits x / 8) ≤ 2 * x then intBits x / 8 else intBits x / 8 + 1 := if_neg hx
    have hlen := le_length (intBits x / 8 + 1) x
    have hget := le_get (intBits x / 8 + 1) x
    unfold enc
    rw [hw]
    generalize intBits x / 8 = q at *
    refine Ex.cons (Ex1.ite (b := decide (x < 0 ∧ 1 ≤ q)) (Tst.cast (b := (decide (x < 0) && (decide ((1 : Int) < ((q + 1 : Nat) : Int)) && true))) ?_ ?_) ?_ ?_)
    · walk_at "m tst"
    · rw [Bool.and_true, ← Bool.decide_and]; congr 1; simp; omega
    · intro h
      obtain ⟨h1, h2⟩ := of_decide_eq_true h
      have ht := top_test h1 h2 hhi
      refine Ex.cons (Ex1.ite (b := decide (-256 ^ q ≤ 2 * x)) ?t0 ?t3 ?t4)
      case t0 =>
        apply Tst.cast
        case h => walk_at "m tst"
        case e' =>
          have i1 : (if (0 : Int) ≤ -1 then (-1 : Int).toNat else (le (q + 1) x).length - (-1 : Int).natAbs) = q := by rw [if_neg (by decide), hlen]; rfl
          have i2 : (if (0 : Int) ≤ -2 then (-2 : Int).toNat else (le (q + 1) x).length - (-2 : Int).natAbs) = q - 1 := by rw [if_neg (by decide), hlen]; rfl
          rw [i1, i2, and128 _ (u8_lt _), Bool.and_true]
          exact ht
      case t3 =>
        intro h3
        have h3 := of_decide_eq_true h3
        rw [if_pos ⟨h1, h2, h3⟩]
        refine Ex.cons (Ex1.assign (v := .bytes (le q x)) ?_ (by simp) (by walk_at "m kd") rfl ?_)
        · apply Ev.cast
          case h => walk_at "m ev"
          case e' =>
            show PV.bytes (((le (q + 1) x).drop 0).take (clipAt (le (q + 1) x).length (-((1 : Nat) : Int)) - 0)) = _
            rw [clipAt_neg _ 1 (Nat.le_refl _), hlen, List.drop_zero, Nat.sub_zero, Nat.add_sub_cancel, le_take _ _ _ (by omega)]
        · refine Ex.nil (Ex.nil (Ex.cons (Ex1.ret (Ev.w ?_) rfl)))
          walk_at "m ev"
      case t4 =>
        intro h3
        have h3 := of_decide_eq_false h3
        rw [if_neg (fun z => h3 z.2.2)]
        refine Ex.nil (Ex.nil (Ex.cons (Ex1.ret (Ev.w ?_) rfl)))
        walk_at "m ev"
    · intro h
      have h1 := of_decide_eq_false h
      rw [if_neg (fun z => h1 ⟨z.1, z.2.1⟩)]
      refine Ex.nil (Ex.cons (Ex1.ret (Ev.w ?_) rfl))
      walk_at "m ev"

theorem encC : Callable encF 1 := callable1 rfl (fun _ _ _ _ => rfl) (by decide) rfl rfl rfl (by decide)
theorem Ev.encode {e : Expr} {np pos : Pos} {x : Int} (hf : c.fns = fnsOf P) (hlv : 0 < c.lv) (h : Ev c m k e (.int x)) (hb : intBits x ≤ 32000000) (hk : c.env.kindOf "encode_long" = some .globalImplicit) (he : starEach [e] c.env = [(false, eval e c.env)]) :
    Ev c m k (.Call (.Name "encode_long" np) [e] [] pos) (.bytes (enc x)) :=
  Ev.call (d := encF) (vs := [.int x]) (by rw [hf]; exact List.mem_of_getElem? (i := 0) rfl) encC rfl (EvL.cons h EvL.nil he) hlv (enc_spec x hb) hk (by decide) he
local macro_rules | `(tactic| walk_at "m ev") => `(tactic| ((with_reducible apply Ev.encode); (case hf => with_reducible assumption); (case hlv => omega); (case h => walk_at "m ev"); (case hb => walk_at "m side"); (case hk => walk_at "m kd"); (case he => rfl)))

theorem lawC : Callable lawF 1 := callable1 rfl (fun _ _ _ _ => rfl) (by decide) rfl rfl rfl (by decide)

/-! ## the plain law -/
theorem dec_append {a b : List UInt8} (hb : b ≠ []) : dec (a ++ b) = uval a + 256 ^ a.length * dec b := by
  have e : neg (a ++ b) = neg b := by
    unfold neg
    rw [List.getLast?_append]
    cases h : b.getLast? with
    | none => exact absurd (List.getLast?_eq_none_iff.mp h) hb
    | some z => rfl
  unfold dec
  rw [e, uval_append, List.length_append, Int.pow_add]
  split
  · rw [Int.mul_sub]; omega
  · rfl
theorem uval_octs_cons {z : Int} (h0 : 0 ≤ z) (h1 : z < 256) (r : List Int) : uval (octs (z :: r)) = z + 256 * uval (octs r) := by
  simp only [octs, List.map_cons, uval]; rw [toU8 h0 h1]
theorem uval_fold : ∀ {l : List Int}, Oct l → uval (octs l) = l.reverse.foldl (fun a o => 256 * a + o) 0
  | [], _ => rfl
  | z :: r, h => by
    rw [List.reverse_cons, List.foldl_append, List.foldl_cons, List.foldl_nil, ← uval_fold (fun n hn => h n (.tail _ hn)), uval_octs_cons (h z (.head _)).1 (h z (.head _)).2]
    omega
theorem neg_octs {l : List Int} (h : Oct l) (hl : l ≠ []) : neg (octs l) = decide (127 < l.getD (l.length - 1) 0) := by
  unfold neg
  rw [octs, List.getLast?_map, List.getLast?_eq_getElem?]
  have hp := List.length_pos_iff.mpr hl
  have hlt : l.length - 1 < l.length := by omega
  have hz : l[l.length - 1]? = some l[l.length - 1] := by simp [hlt]
  have hg : l.getD (l.length - 1) 0 = l[l.length - 1] := by simp [hlt]
  have hb := h _ (List.getElem_mem hlt)
  rw [hz, hg]
  generalize l[l.length - 1] = z at *
  have := toU8 hb.1 hb.2
  show decide (z.toNat.toUInt8 ≥ 128) = decide (127 < z)
  have e : (z.toNat.toUInt8 ≥ 128) ↔ 127 < z := by
    rw [ge_iff_le, UInt8.le_iff_toNat_le]
    show 128 ≤ z.toNat.toUInt8.toNat ↔ _
    omega
  simp only [e]
theorem bits_oct {z : Int} (h0 : 0 ≤ z) (h1 : z < 256) : intBits z ≤ 8 := intBits_le_iff.mpr (by omega)
theorem getD_oct {l : List Int} (h : Oct l) (i : Nat) : 0 ≤ l.getD i 0 ∧ l.getD i 0 < 256 := by
  rw [List.getD_eq_getElem?_getD]
  cases hz : l[i]? with
  | none => exact ⟨by decide, by decide⟩
  | some z => exact h z (List.mem_of_getElem? hz)
theorem rangeL_get {n i : Nat} {v : PV} (h : (rangeL n)[i]? = some v) : i < n ∧ v = .int (i : Int) := by
  unfold rangeL at h
  rw [List.getElem?_map] at h
  by_cases hi : i < n
  · rw [List.getElem?_range hi] at h
    exact ⟨hi, (Option.some.inj h).symm⟩
  · rw [List.getElem?_eq_none (by simpa using hi)] at h; cases h
theorem bits_dec (b : List UInt8) : intBits (dec b) ≤ 8 * b.length := by
  have h1 := dec_fits b
  unfold Fits at h1
  have hp := pow_pos b.length
  refine intBits_le_iff.mpr ?_
  rw [two_pow_8]
  apply Int.ofNat_lt.mp
  rw [cast_pow]; omega
theorem Ex.one {c : Fx} {m : Loc} {k : Option PySem.Str} {st : Stmt} {P : Option PV → Loc → Option PySem.Str → Prop} (h : Ex1 c m k st P) : Ex c m k [st] P :=
  Ex.cons (Ex1.mono h fun r m' k' hq => by
    cases r with
    | none => exact Ex.nil hq
    | some v => exact hq)
/-! ### rows without end -/
def V (f : Int) : List Int → Int
  | [] => if f = 255 then -1 else 0
  | z :: r => z + 256 * V f r
theorem V_app (f : Int) (b : List Int) : ∀ {a : List Int}, Oct a → V f (a ++ b) = uval (octs a) + 256 ^ a.length * V f b
  | [], _ => by simp [octs, uval]
  | z :: r, h => by
    have ih := V_app f b (a := r) fun n hn => h n (.tail _ hn)
    rw [List.cons_append, V, ih, uval_octs_cons (h z (.head _)).1 (h z (.head _)).2, List.length_cons, pow_succ, Int.mul_add, Int.mul_assoc]
    omega
theorem V_oct {f : Int} {a : List Int} (h : Oct a) : V f a = uval (octs a) + 256 ^ a.length * V f [] := by
  have := V_app f [] h
  rwa [List.append_nil] at this
theorem Oct.app {a b : List Int} (ha : Oct a) (hb : Oct b) : Oct (a ++ b) := fun z hz => (List.mem_append.mp hz).elim (ha z) (hb z)
theorem Oct.left {a b : List Int} (h : Oct (a ++ b)) : Oct a := fun z hz => h z (List.mem_append_left _ hz)
theorem Oct.right {a b : List Int} (h : Oct (a ++ b)) : Oct b := fun z hz => h z (List.mem_append_right _ hz)
theorem oct_rep {z : Int} (h : 0 ≤ z ∧ z < 256) (n : Nat) : Oct (List.replicate n z) := fun y hy => by rw [(List.mem_replicate.mp hy).2]; exact h
theorem oct_nil : Oct [] := fun _ h => nomatch h
theorem oct_one {z : Int} (h : 0 ≤ z ∧ z < 256) : Oct [z] := fun y hy => by rw [List.mem_singleton.mp hy]; exact h
/-- the row ends as it goes on: one octet less tells the same -/
theorem V_trim (f : Int) (hf : f = 0 ∨ f = 255) : ∀ a : List Int, V f (a ++ [f]) = V f a
  | [] => by rcases hf with rfl | rfl <;> rfl
  | z :: r => by rw [List.cons_append, V, V, V_trim f hf r]
def turn (l : List Int) : List Int := l.map (255 - ·)
theorem V_turn (f : Int) (hf : f = 0 ∨ f = 255) : ∀ l : List Int, V (255 - f) (turn l) = -1 - V f l
  | [] => by rcases hf with rfl | rfl <;> rfl
  | z :: r => by
    have ih := V_turn f hf r
    show 255 - z + 256 * V (255 - f) (turn r) = -1 - (z + 256 * V f r)
    rw [ih]; omega
theorem turn_oct {l : List Int} (h : Oct l) : Oct (turn l) := fun z hz => by
  obtain ⟨y, hy, rfl⟩ := List.mem_map.mp hz
  have := h y hy
  omega
/-- how many 255s lead the row -/
def lead : List Int → Nat
  | [] => 0
  | z :: r => if z = 255 then lead r + 1 else 0
theorem lead_le : ∀ l : List Int, lead l ≤ l.length
  | [] => Nat.le_refl _
  | z :: r => by
    have := lead_le r
    unfold lead
    split
    · simp; omega
    · exact Nat.zero_le _
theorem lead_test : ∀ {l : List Int} {j : Nat}, j ≤ lead l → ((j < l.length ∧ l.getD j 0 = 255) ↔ j < lead l)
  | [], j, h => by simp [lead]
  | z :: r, 0, h => by
    unfold lead
    by_cases hz : z = 255
    · simp [hz]
    · simp [hz]
  | z :: r, j + 1, h => by
    unfold lead at h ⊢
    by_cases hz : z = 255
    · rw [if_pos hz] at h ⊢
      have := lead_test (l := r) (j := j) (by omega)
      simp only [List.length_cons, List.getD_cons_succ]
      omega
    · rw [if_neg hz] at h; omega
theorem lead_take : ∀ l : List Int, l.take (lead l) = List.replicate (lead l) 255
  | [] => rfl
  | z :: r => by
    unfold lead
    split
    · rename_i h; rw [List.take_succ_cons, List.replicate_succ, lead_take r, h]
    · rfl
def om (l : List Int) (f : Int) : List Int × Int :=
  if lead l < l.length then (List.replicate (lead l) 0 ++ [l.getD (lead l) 0 + 1] ++ l.drop (lead l + 1), f)
  else if f = 0 then (List.replicate (lead l) 0 ++ [1], 0) else ([], 0)
theorem uval_r0 : ∀ n : Nat, uval (octs (List.replicate n 0)) = 0
  | 0 => rfl
  | n + 1 => by rw [List.replicate_succ, uval_octs_cons (by decide) (by decide), uval_r0 n]; rfl
theorem uval_r255 : ∀ n : Nat, uval (octs (List.replicate n 255)) = 256 ^ n - 1
  | 0 => by rfl
  | n + 1 => by rw [List.replicate_succ, uval_octs_cons (by decide) (by decide), uval_r255 n, pow_succ]; omega
theorem om_ok {l : List Int} {f : Int} (h : Oct l) (hf : f = 0 ∨ f = 255) : V (om l f).2 (om l f).1 = V f l + 1 ∧ Oct (om l f).1 ∧ ((om l f).2 = 0 ∨ (om l f).2 = 255) ∧ (om l f).1.length ≤ l.length + 1 := by
  have hl := lead_le l
  have e : l = List.replicate (lead l) 255 ++ l.drop (lead l) := by rw [← lead_take, List.take_append_drop]
  have e2 : V f l = (256 ^ (lead l) - 1) + 256 ^ (lead l) * V f (l.drop (lead l)) := by
    have h1 := V_app f (l.drop (lead l)) (a := List.replicate (lead l) 255) (oct_rep (by decide) _)
    rw [← e, uval_r255, List.length_replicate] at h1
    exact h1
  unfold om
  split
  · rename_i hlt
    have hd : l.drop (lead l) = l.getD (lead l) 0 :: l.drop (lead l + 1) := by rw [List.drop_eq_getElem_cons hlt]; simp [hlt]
    have hne : ¬ l.getD (lead l) 0 = 255 := fun z => by
      have := (lead_test (l := l) (j := lead l) (Nat.le_refl _)).mp ⟨hlt, z⟩
      omega
    have ho := getD_oct h (lead l)
    refine ⟨?_, ?_, hf, ?_⟩
    · dsimp only
      rw [List.append_assoc, V_app _ _ (oct_rep (by decide) _), uval_r0, List.length_replicate, e2, hd, List.cons_append, List.nil_append, V, V]
      rw [show l.getD (lead l) 0 + 1 + 256 * V f (l.drop (lead l + 1)) = 1 + (l.getD (lead l) 0 + 256 * V f (l.drop (lead l + 1))) by omega, Int.mul_add]
      omega
    · exact Oct.app (Oct.app (oct_rep (by decide) _) (oct_one (by omega))) fun z hz => h z (List.mem_of_mem_drop hz)
    · simp; omega
  · rename_i hge
    have hn : l.drop (lead l) = [] := List.drop_eq_nil_of_le (by omega)
    rw [hn] at e2
    split
    · rename_i h0
      refine ⟨?_, Oct.app (oct_rep (by decide) _) (oct_one (by decide)), .inl rfl, by simp; omega⟩
      dsimp only
      rw [V_app _ _ (oct_rep (by decide) _), uval_r0, List.length_replicate, e2, h0]
      simp [V]
    · rename_i h0
      have : f = 255 := by omega
      refine ⟨?_, oct_nil, .inl rfl, by simp⟩
      dsimp only
      rw [e2, this]
      simp [V]
      omega
def bit0 (f : Int) : List Int → Int
  | [] => f % 2
  | z :: _ => z % 2
def half (f : Int) : List Int → List Int
  | [] => []
  | z :: r => (256 * bit0 f r + z) / 2 :: half f r
theorem bit0_ok (f : Int) (hf : f = 0 ∨ f = 255) (l : List Int) : bit0 f l = V f l % 2 := by
  cases l with
  | nil => rcases hf with rfl | rfl <;> rfl
  | cons z r => simp only [bit0, V]; omega
theorem V_half (f : Int) (hf : f = 0 ∨ f = 255) : ∀ l : List Int, V f (half f l) = V f l / 2
  | [] => by rcases hf with rfl | rfl <;> rfl
  | z :: r => by
    have ih := V_half f hf r
    have hb := bit0_ok f hf r
    simp only [half, V]
    rw [ih, hb]; omega
theorem half_length (f : Int) : ∀ l : List Int, (half f l).length = l.length
  | [] => rfl
  | z :: r => by simp [half, half_length f r]
theorem half_oct {f : Int} (hf : f = 0 ∨ f = 255) : ∀ {l : List Int}, Oct l → Oct (half f l)
  | [], h => oct_nil
  | z :: r, h => by
    intro y hy
    rcases List.mem_cons.mp hy with rfl | hy
    · have := h z (.head _)
      have hb := bit0_ok f hf r
      omega
    · exact half_oct hf (fun n hn => h n (.tail _ hn)) y hy
theorem V_drop1 (f : Int) (hf : f = 0 ∨ f = 255) (l : List Int) (h : Oct l) : V f (l.drop 1) = V f l / 256 := by
  cases l with
  | nil => rcases hf with rfl | rfl <;> rfl
  | cons z r =>
    have := h z (.head _)
    simp only [List.drop_succ_cons, List.drop_zero, V]
    omega
theorem dec_top {f : Int} (hf : f = 0 ∨ f = 255) {a : List Int} {z : Int} (h : Oct (a ++ [z])) (hz : decide (127 < z) = decide (f = 255)) : dec (octs (a ++ [z])) = V f (a ++ [z]) := by
  have hn := neg_octs h (by simp)
  have e : (a ++ [z]).getD ((a ++ [z]).length - 1) 0 = z := by simp
  rw [e, hz] at hn
  rw [V_oct h]
  unfold dec
  rw [hn, octs_length]
  rcases hf with rfl | rfl
  · simp [V]
  · simp [V]; omega
/-- the octets that are due -/
theorem due_enc {f : Int} (hf : f = 0 ∨ f = 255) {l : List Int} (h : Oct l) (ht : l = [] ∨ ¬ l.getD (l.length - 1) 0 = f) :
    enc (V f l) = octs (if (decide (127 < l.getD (l.length - 1) 0) == decide (f = 255)) = true then l else l ++ [f]) := by
  have hf' : (0 : Int) ≤ f ∧ f < 256 := by omega
  have hff : decide (127 < f) = decide (f = 255) := by rcases hf with rfl | rfl <;> rfl
  rcases List.eq_nil_or_concat l with rfl | ⟨a, z, rfl⟩
  · rcases hf with rfl | rfl <;> decide
  · rw [List.concat_eq_append] at *
    have e : (a ++ [z]).getD ((a ++ [z]).length - 1) 0 = z := by simp
    rw [e] at ht ⊢
    have ht : ¬ z = f := ht.elim (fun q => by simp at q) id
    have hz := h z (by simp)
    have hV := V_app f [z] h.left
    have hb := uval_bound (octs a)
    rw [octs_length] at hb
    have hp := pow_pos a.length
    have hs := pow_succ a.length
    have hzz : V f [z] = z - (if f = 255 then 256 else 0) := by simp only [V]; split <;> omega
    rw [hzz] at hV
    split
    · rename_i hc
      have hc : decide (127 < z) = decide (f = 255) := by simpa using hc
      refine enc_of (dec_top hf h hc) (.inr ?_)
      rw [octs_length, List.length_append, List.length_singleton, Nat.add_sub_cancel]
      rintro ⟨q1, q2⟩
      rw [hV] at q1 q2
      rcases hf with rfl | rfl
      · rw [if_neg (by decide), Int.sub_zero] at q1 q2
        have : (256 : Int) ^ a.length * 1 ≤ 256 ^ a.length * z := Int.mul_le_mul_of_nonneg_left (by omega) (by omega)
        omega
      · rw [if_pos rfl] at q1 q2
        have : (256 : Int) ^ a.length * (z - 256) ≤ 256 ^ a.length * (-2) := Int.mul_le_mul_of_nonneg_left (by omega) (by omega)
        omega
    · rename_i hc
      have hc : ¬ decide (127 < z) = decide (f = 255) := by simpa using hc
      refine enc_of ((dec_top hf (Oct.app h (oct_one hf')) hff).trans (V_trim f hf _)) (.inr ?_)
      rw [octs_length, List.length_append, List.length_singleton, Nat.add_sub_cancel, List.length_append, List.length_singleton]
      rintro ⟨q1, q2⟩
      rw [hV] at q1 q2
      rcases hf with rfl | rfl
      · have hc : 127 < z := by
          apply Classical.byContradiction
          intro q; apply hc; simp [q]
        rw [if_neg (by decide), Int.sub_zero] at q1 q2
        have : (256 : Int) ^ a.length * 128 ≤ 256 ^ a.length * z := Int.mul_le_mul_of_nonneg_left (by omega) (by omega)
        omega
      · have hc : ¬ 127 < z := by
          intro q; apply hc; simp [q]
        rw [if_pos rfl] at q1 q2
        have : (256 : Int) ^ a.length * (z - 256) ≤ 256 ^ a.length * (-129) := Int.mul_le_mul_of_nonneg_left (by omega) (by omega)
        omega
/-! ### runs -/
def octOf (x : Int) : Int := ([0, 255, x / 4 % 256, 127 + x / 4 % 2] : List Int).getD (x % 4).toNat 0
def cntOf (x : Int) : Nat := (1 + x / 1024 % 4).toNat
theorem octOf_oct (x : Int) : 0 ≤ octOf x ∧ octOf x < 256 := by
  unfold octOf
  have : x % 4 = 0 ∨ x % 4 = 1 ∨ x % 4 = 2 ∨ x % 4 = 3 := by omega
  rcases this with h | h | h | h <;> rw [h]
  · show (0 : Int) ≤ 0 ∧ (0 : Int) < 256; decide
  · show (0 : Int) ≤ 255 ∧ (255 : Int) < 256; decide
  · show 0 ≤ x / 4 % 256 ∧ x / 4 % 256 < 256; omega
  · show 0 ≤ 127 + x / 4 % 2 ∧ 127 + x / 4 % 2 < 256; omega
abbrev Runs := List (Int × Nat)
def Good (rs : Runs) : Prop := ∀ r ∈ rs, (0 ≤ r.1 ∧ r.1 < 256) ∧ 1 ≤ r.2 ∧ r.2 ≤ 4
def PR (r : Int × Nat) : PV := .tup [.int r.1, .int (r.2 : Int)]
abbrev RL (rs : Runs) : PV := .list (rs.map PR)
def flat (rs : Runs) : List Int := (rs.map fun r => List.replicate r.2 r.1).flatten
theorem flat_append (a b : Runs) : flat (a ++ b) = flat a ++ flat b := by simp [flat]
theorem flat_oct {rs : Runs} (h : Good rs) : Oct (flat rs) := by
  intro z hz
  obtain ⟨l, hl, hz⟩ := List.mem_flatten.mp hz
  obtain ⟨r, hr, rfl⟩ := List.mem_map.mp hl
  rw [(List.mem_replicate.mp hz).2]
  exact (h r hr).1
theorem flat_len : ∀ {rs : Runs}, Good rs → (flat rs).length ≤ 4 * rs.length
  | [], _ => by simp [flat]
  | r :: rs, h => by
    have := flat_len (rs := rs) fun q hq => h q (.tail _ hq)
    have h2 := (h r (.head _)).2.2
    have e : flat (r :: rs) = List.replicate r.2 r.1 ++ flat rs := rfl
    rw [e, List.length_append, List.length_replicate, List.length_cons]
    omega
theorem Good.take {rs : Runs} (h : Good rs) (n : Nat) : Good (rs.take n) := fun r hr => h r (List.mem_of_mem_take hr)
/-- the last octet -/
theorem flat_last {rs : Runs} (h : Good rs) {n : Nat} (hn : n < rs.length) : flat (rs.take (n + 1)) = flat (rs.take n) ++ List.replicate (rs.getD n (0, 0)).2 (rs.getD n (0, 0)).1 := by
  have e : rs.take (n + 1) = rs.take n ++ [rs.getD n (0, 0)] := by rw [List.take_add_one]; simp [hn]
  rw [e, flat_append]
  simp [flat]
theorem getD_good {rs : Runs} (h : Good rs) {n : Nat} (hn : n < rs.length) : (0 ≤ (rs.getD n (0, 0)).1 ∧ (rs.getD n (0, 0)).1 < 256) ∧ 1 ≤ (rs.getD n (0, 0)).2 ∧ (rs.getD n (0, 0)).2 ≤ 4 := by
  have e : rs.getD n (0, 0) = rs[n] := by simp [hn]
  rw [e]
  exact h _ (List.getElem_mem hn)
theorem last_flat {rs : Runs} (h : Good rs) {n : Nat} (hn : n < rs.length) : (flat (rs.take (n + 1))).getD ((flat (rs.take (n + 1))).length - 1) 0 = (rs.getD n (0, 0)).1 ∧ flat (rs.take (n + 1)) ≠ [] := by
  rw [flat_last h hn]
  obtain ⟨q, hq⟩ : ∃ q, (rs.getD n (0, 0)).2 = q + 1 := ⟨(rs.getD n (0, 0)).2 - 1, by have := (getD_good h hn).2.1; omega⟩
  rw [hq, List.replicate_succ', ← List.append_assoc]
  exact ⟨by simp, by simp⟩
theorem uval_run {o : Int} (h : 0 ≤ o ∧ o < 256) : ∀ n : Nat, 255 * uval (octs (List.replicate n o)) = o * (256 ^ n - 1)
  | 0 => by simp [octs, uval]
  | n + 1 => by
    rw [List.replicate_succ, uval_octs_cons h.1 h.2, Int.mul_add, ← Int.mul_assoc, Int.mul_comm 255 256, Int.mul_assoc, uval_run h n, pow_succ, Int.mul_sub, Int.mul_sub, ← Int.mul_assoc 256, Int.mul_comm 256 o, Int.mul_assoc o 256]
    rw [Int.mul_sub, ← Int.mul_assoc o 256, Int.mul_comm o 256]
    omega
theorem geo (n : Nat) : ∃ g : Int, 256 ^ n - 1 = 255 * g ∧ 0 ≤ g := by
  induction n with
  | zero => exact ⟨0, rfl, by decide⟩
  | succ n ih =>
    obtain ⟨g, e, h⟩ := ih
    exact ⟨256 * g + 1, by rw [pow_succ]; omega, by omega⟩
theorem uval_geo {o : Int} (h : 0 ≤ o ∧ o < 256) (n : Nat) : uval (octs (List.replicate n o)) = o * ((256 ^ n - 1) / 255) := by
  obtain ⟨g, e, _⟩ := geo n
  have := uval_run h n
  rw [e, ← Int.mul_assoc, Int.mul_comm o 255, Int.mul_assoc] at this
  rw [e, Int.mul_ediv_cancel_left _ (by decide)]
  omega
def kp (rs : Runs) (f : Int) : Nat → Nat
  | 0 => 0
  | j + 1 => if (rs.getD j (0, 0)).1 = f then kp rs f j else j + 1
theorem kp_le (rs : Runs) (f : Int) : ∀ j, kp rs f j ≤ j
  | 0 => Nat.le_refl _
  | j + 1 => by
    unfold kp
    have := kp_le rs f j
    split <;> omega
theorem V_trims (f : Int) (hf : f = 0 ∨ f = 255) (a : List Int) : ∀ n : Nat, V f (a ++ List.replicate n f) = V f a
  | 0 => by simp
  | n + 1 => by rw [List.replicate_succ', ← List.append_assoc, V_trim f hf, V_trims f hf a n]
theorem kp_V {rs : Runs} (h : Good rs) {f : Int} (hf : f = 0 ∨ f = 255) : ∀ j, j ≤ rs.length → V f (flat (rs.take (kp rs f j))) = V f (flat (rs.take j)) ∧ (kp rs f j = 0 ∨ (rs.getD (kp rs f j - 1) (0, 0)).1 ≠ f)
  | 0, _ => ⟨rfl, .inl rfl⟩
  | j + 1, hj => by
    unfold kp
    split
    · rename_i e
      obtain ⟨q1, q2⟩ := kp_V h hf j (by omega)
      refine ⟨?_, q2⟩
      rw [q1, flat_last h (by omega), e, V_trims f hf]
    · rename_i e
      exact ⟨rfl, .inr e⟩
def least (rs : Runs) (f : Int) : List Int :=
  let l := flat (rs.take (kp rs f rs.length))
  if (decide (127 < l.getD (l.length - 1) 0) == decide (f = 255)) = true then l else l ++ [f]
theorem law8 {rs : Runs} (h : Good rs) {f : Int} {n : Nat} (hn : rs.length = n + 1) (hf : f = if 127 < (rs.getD n (0, 0)).1 then 255 else 0) :
    enc (dec (octs (flat rs))) = octs (least rs f) := by
  have hf0 : f = 0 ∨ f = 255 := by rw [hf]; split <;> omega
  have hfr : flat rs = flat (rs.take (n + 1)) := by rw [← hn, List.take_length]
  obtain ⟨a1, a2⟩ := last_flat h (n := n) (by omega)
  rw [← hfr] at a1 a2
  have hd : dec (octs (flat rs)) = V f (flat rs) := by
    rcases List.eq_nil_or_concat (flat rs) with e | ⟨b, z, e⟩
    · exact absurd e a2
    · rw [e, List.concat_eq_append] at a1 ⊢
      have ez : (b ++ [z]).getD ((b ++ [z]).length - 1) 0 = z := by simp
      rw [ez] at a1
      refine dec_top hf0 (by rw [← List.concat_eq_append, ← e]; exact flat_oct h) ?_
      rw [a1, hf]
      generalize (rs.getD n (0, 0)).1 = y
      by_cases hy : 127 < y
      · simp [hy]
      · simp [hy]
  obtain ⟨q1, q2⟩ := kp_V h hf0 rs.length (Nat.le_refl _)
  rw [List.take_length] at q1
  rw [hd, ← q1]
  unfold least
  refine due_enc hf0 (flat_oct (h.take _)) ?_
  rcases Nat.eq_zero_or_pos (kp rs f rs.length) with z | z
  · left; rw [z]; rfl
  · right
    have hk := kp_le rs f rs.length
    obtain ⟨w1, _⟩ := last_flat h (n := kp rs f rs.length - 1) (by omega)
    rw [show kp rs f rs.length - 1 + 1 = kp rs f rs.length by omega] at w1
    rw [w1]
    exact q2.resolve_left (by omega)
theorem Elts.of {α : Type} {scope : Scope} {target elt : Expr} {rs : List α} {F G : α → PV} (h : ∀ c' : Fx, c'.fns = c.fns → c'.lv = c.lv → (∃ C, c'.env = compEnv scope C c.env) → ∀ r ∈ rs, ∃ f, Tgt c' none target (F r) f ∧ Ev c' (f fun _ => none) none elt (G r)) :
    Elts c scope target elt (rs.map F) (rs.map G) := by
  intro c' h1 h2 h3 i x v hx hv
  rw [List.getElem?_map] at hx hv
  cases hz : rs[i]? with
  | none => rw [hz] at hx; cases hx
  | some z =>
    rw [hz] at hx hv
    cases hx; cases hv
    exact h c' h1 h2 h3 z (List.mem_of_getElem? hz)
theorem at_runs {rs : Runs} {i : Nat} (hi : i < rs.length) : at? (rs.map PR) (i : Int) = some (PR (rs.getD i (0, 0))) := by simp [at?, hi]
theorem runC : Callable fnRun 1 := callable1 rfl (fun _ _ _ _ => rfl) (by decide) rfl rfl rfl (by decide)
theorem joinedC : Callable fnJoined 1 := callable1 rfl (fun _ _ _ _ => rfl) (by decide) rfl rfl rfl (by decide)
theorem leastC : Callable fnLeast 2 := callable2 rfl (fun _ _ _ _ _ => rfl) (by decide) rfl rfl rfl (by decide)
theorem run_spec {fns : List Fn} {lv : Nat} (x : Int) : Spec fns lv fnRun [.int x] (PR (octOf x, cntOf x)) := by
  rintro c hf hlv ⟨L, f, cd, hE⟩
  refine Ex.cons (Ex1.assign (v := .int (octOf x)) (Ev.item (xs := ([0, 255, x / 4 % 256, 127 + x / 4 % 2] : List Int).map PV.int) (j := x % 4) (Ev.list (EvL.cons (by walk_at "m ev") (EvL.cons (by walk_at "m ev") (EvL.cons (by walk_at "m ev") (EvL.cons (by walk_at "m ev") EvL.nil rfl) rfl) rfl) rfl) (by simp)) (by walk_at "m ev") (at_ints (by omega) (by simp; omega)) (by simp) (fun _ _ => rfl)) (by simp) (by walk_at "m kd") rfl ?_)
  show Ex _ _ _ _ _
  refine Ex.cons (Ex1.ret (Ev.w (Ev.tuple (EvL.cons (by walk_at "m ev") (EvL.cons (Ev.cast (v' := .int (cntOf x : Nat)) (v := .int (1 + x / 1024 % 4)) (by walk_at "m ev") ?_) EvL.nil rfl) rfl) (by simp))) rfl)
  unfold cntOf
  congr 1
  omega
theorem joined_spec {fns : List Fn} {lv : Nat} (rs : Runs) (h : Good rs) (hlen : rs.length ≤ 63) : Spec fns lv fnJoined [RL rs] (.bytes (octs (flat rs))) := by
  rintro c hf hlv ⟨L, f, cd, hE⟩
  have e : (rs.map fun r => List.replicate r.2 r.1.toNat.toUInt8).flatten = octs (flat rs) := by
    unfold octs flat
    rw [List.map_flatten, List.map_map]
    congr 1
    apply List.map_congr_left
    intro r _
    simp
  have hl := flat_len h
  refine Ex.cons (Ex1.ret (Ev.w (Ev.cast (Ev.join (bs := rs.map fun r => List.replicate r.2 r.1.toNat.toUInt8) (Ev.cast (Ev.comp (vs := rs.map fun r => PV.bytes (List.replicate r.2 r.1.toNat.toUInt8)) (IterOk.list (xs := rs.map PR) (by walk_at "m ev")) (Elts.of ?_) (by simp) (by simp; omega) (by decide) (by decide) rfl (by decide) (fun _ => rfl)) (by rw [List.map_map]; rfl)) (by rw [e, octs_length]; omega) ⟨_, rfl⟩ rfl) (by rw [e]))) rfl)
  rintro c' hf' hlv' ⟨C, hC⟩ r hr
  have hg := h r hr
  refine ⟨_, Tgt.pair (by simp) (by simp) (by walk_at "m kd") (by walk_at "m kd"), ?_⟩
  refine Ev.cast (Ev.bin (Ev.bytes (l := [r.1]) (Ev.w (by walk_at "m ev")) (oct_one hg.1) (by simp) (by walk_at "m kd") rfl) (v2 := .int (r.2 : Int)) (by walk_at "m ev") (Bin.mulB (b := r.1.toNat.toUInt8) (by omega) (by omega))) (by rw [Int.toNat_natCast])
theorem Ev.joinedR {e : Expr} {np pos : Pos} {rs : Runs} (hf : c.fns = fnsOf P) (hlv : 0 < c.lv) (h : Ev c m k e (RL rs)) (hg : Good rs) (hb : rs.length ≤ 63) (hk : c.env.kindOf "_law_joined" = some .globalImplicit) (he : starEach [e] c.env = [(false, eval e c.env)]) :
    Ev c m k (.Call (.Name "_law_joined" np) [e] [] pos) (.bytes (octs (flat rs))) :=
  Ev.call (d := fnJoined) (vs := [RL rs]) (by rw [hf]; exact List.mem_of_getElem? (i := 3) rfl) joinedC rfl (EvL.cons h EvL.nil he) hlv (joined_spec rs hg hb) hk (by decide) he
theorem Ev.runOct {e i : Expr} {p1 p2 p3 : Pos} {q : Nat} {rs : Runs} {j : Nat} (h : Ev c m k e (RL rs)) (hi : Ev c m k i (.int (j : Nat))) (hj : j < rs.length) (hlen : rs.length ≤ 1000) (hs : ∀ o v, subscripted i false o v = operate [o, v] (getItem o v)) :
    Ev c m k (.Subscript (.Subscript e i p1) (.Constant (.int 0) q p2) p3) (.int (rs.getD j (0, 0)).1) :=
  Ev.itemT (j := 0) (xs := [.int (rs.getD j (0, 0)).1, .int ((rs.getD j (0, 0)).2 : Int)]) (Ev.item h hi (at_runs hj) (by simp; omega) hs) Ev.cint rfl (by simp) (fun _ _ => rfl)
theorem least_spec {lv : Nat} (rs : Runs) (f : Int) (h : Good rs) (hlen : rs.length ≤ 63) (hf0 : f = 0 ∨ f = 255) (hlv0 : 0 < lv) : Spec (fnsOf P) lv fnLeast [RL rs, .int f] (.bytes (octs (least rs f))) := by
  rintro c hf hlv ⟨L, fa, cd, hE⟩
  refine Ex.cons (Ex1.assign (v := .int (rs.length : Nat)) (Ev.cast (Ev.len (xs := rs.map PR) (Ev.w (by walk_at "m ev")) (by simp; omega) (by walk_at "m kd") rfl) (by rw [List.length_map])) (by simp) (by walk_at "m kd") rfl ?_)
  show Ex _ _ _ _ _
  refine Ex.cons (Ex1.while (fun n m k => k = none ∧ m "runs" = some (RL rs) ∧ m "fill" = some (.int f) ∧ ∃ j, n = j ∧ j ≤ rs.length ∧ kp rs f j = kp rs f rs.length ∧ m "kept" = some (.int (j : Nat))) rs.length ⟨rfl, by walk_at "m lk", by walk_at "m lk", rs.length, rfl, Nat.le_refl _, rfl, by walk_at "m lk"⟩ ?_)
  rintro n m' k' ⟨rfl, h1, h2, j, rfl, hj, hk, h3⟩
  refine ⟨decide (0 < (n : Int)) && decide ((rs.getD (n - 1) (0, 0)).1 = f), ?_, fun hc => ?_, fun hc => ?_⟩
  · apply Tst.cast
    case b => exact decide (0 < (n : Int)) && (decide ((rs.getD (n - 1) (0, 0)).1 = f) && true)
    case h =>
      refine Tst.and_cons (by walk_at "m tst") fun hc => Tst.and_cons ?_ fun _ => Tst.and_nil
      have hc : 0 < (n : Int) := of_decide_eq_true hc
      refine Tst.cast (Tst.cmp (Ev.w (Ev.runOct (rs := rs) (j := n - 1) (by walk_at "m ev") (Ev.cast (v := .int ((n : Int) - 1)) (by walk_at "m ev") (by congr 1; omega)) (by omega) (by omega) (fun _ _ => rfl))) (Ev.w (by walk_at "m ev")) Cmp.eq rfl) rfl
    case e' => rw [Bool.and_true]
  · have hc : 0 < n ∧ (rs.getD (n - 1) (0, 0)).1 = f := by
      simp only [Bool.and_eq_true, decide_eq_true_eq] at hc
      exact ⟨by omega, hc.2⟩
    obtain ⟨q, rfl⟩ : ∃ q, n = q + 1 := ⟨n - 1, by omega⟩
    walk_at "m au"
    refine Ex.nil ⟨q, by omega, rfl, by walk_at "m lk", by walk_at "m lk", q, rfl, by omega, ?_, ?_⟩
    · rw [← hk]
      show _ = if _ then _ else _
      rw [if_pos (by exact hc.2)]
    · have e : (q : Int) = ((q + 1 : Nat) : Int) - 1 := by omega
      rw [e]
      walk_at "m lk"
  · have hkn : kp rs f rs.length = n := by
      rw [← hk]
      cases n with
      | zero => rfl
      | succ q =>
        show (if _ then _ else _) = _
        rw [if_neg]
        intro z
        have : decide ((rs.getD (q + 1 - 1) (0, 0)).1 = f) = true := decide_eq_true z
        rw [this, decide_eq_true (by omega)] at hc
        cases hc
    show Ex _ _ _ _ _
    have hg := h.take n
    have hl := flat_len hg
    have htl : (rs.take n).length ≤ 63 := by simp; omega
    refine Ex.cons (Ex1.assign (v := .int ((flat (rs.take n)).getD ((flat (rs.take n)).length - 1) 0)) (Ev.ifexp (b := decide (0 < (n : Int))) (by walk_at "m tst") ?_) (by simp) (by walk_at "m kd") rfl ?_)
    · split
      · rename_i hc
        have hc : 0 < (n : Int) := of_decide_eq_true hc
        obtain ⟨w1, _⟩ := last_flat h (n := n - 1) (by omega)
        rw [show n - 1 + 1 = n by omega] at w1
        rw [w1]
        exact Ev.runOct (rs := rs) (j := n - 1) (by walk_at "m ev") (Ev.cast (v := .int ((n : Int) - 1)) (by walk_at "m ev") (by congr 1; omega)) (by omega) (by omega) (fun _ _ => rfl)
      · rename_i hc
        have hc : ¬ 0 < (n : Int) := fun z => hc (decide_eq_true z)
        have : n = 0 := by omega
        subst this
        exact Ev.cint
    show Ex _ _ _ _ _
    unfold least
    rw [hkn]
    dsimp only
    have up : ∀ {m'' : Loc} {p1 p2 p3 p4 : Pos}, m'' "runs" = some (RL rs) → m'' "kept" = some (.int (n : Nat)) → Ev c m'' none (.Subscript (.Name "runs" p1) (.Slice none (some (.Name "kept" p2)) none p3) p4) (RL (rs.take n)) := fun q1 q2 =>
      Ev.cast (Ev.upto (xs := rs.map PR) (by walk_at "m ev") (by walk_at "m ev") (by simp; omega)) (by rw [← List.map_take])
    refine Ex.cons (Ex1.ite (b := (decide (127 < (flat (rs.take n)).getD ((flat (rs.take n)).length - 1) 0) == decide (f = 255))) (Tst.cast (b := (decide (127 < (flat (rs.take n)).getD ((flat (rs.take n)).length - 1) 0) == (f == 255))) (by walk_at "m tst") rfl) (fun hc => ?_) (fun hc => ?_))
    · rw [if_pos hc]
      exact Ex.cons (Ex1.ret (Ev.w (Ev.joinedR hf (by omega) (up (by walk_at "m lk") (by walk_at "m lk")) hg htl (by walk_at "m kd") rfl)) rfl)
    · rw [if_neg (by rw [hc]; decide)]
      refine Ex.nil ?_
      show Ex _ _ _ _ _
      exact Ex.cons (Ex1.ret (Ev.w (Ev.cast (Ev.bin (Ev.joinedR hf (by omega) (up (by walk_at "m lk") (by walk_at "m lk")) hg htl (by walk_at "m kd") rfl) (Ev.bytes (l := [f]) (Ev.w (by walk_at "m ev")) (oct_one (by omega)) (by simp) (by walk_at "m kd") rfl) (Bin.addB (by rw [octs_length, octs_length]; simp; omega))) (by rw [octs_append]))) rfl)
theorem at_last {rs : Runs} {n : Nat} (hn : rs.length = n + 1) : at? (rs.map PR) (-1) = some (PR (rs.getD n (0, 0))) := by
  have h3 : ((-1 : Int) + ((rs.map PR).length : Int)).toNat = n := by simp; omega
  unfold at?
  rw [if_neg (by decide), if_pos (by simp; omega), h3]
  simp [show n < rs.length by omega]
theorem small_run {o : Int} (h : 0 ≤ o ∧ o < 256) {n : Nat} (hn : n ≤ 4) : intBits (o * ((256 ^ n - 1) / 255)) ≤ 64 := by
  rw [← uval_geo h]
  have := uval_bound (octs (List.replicate n o))
  rw [octs_length, List.length_replicate] at this
  refine intBits_le_iff.mpr ?_
  have hp : (256 : Int) ^ n ≤ 4294967296 := by
    have : n = 0 ∨ n = 1 ∨ n = 2 ∨ n = 3 ∨ n = 4 := by omega
    rcases this with rfl | rfl | rfl | rfl | rfl <;> decide
  have e : (2 : Nat) ^ 64 = 18446744073709551616 := by decide
  rw [e]
  omega
theorem small_pow4 {n : Nat} (hn : n ≤ 4) : intBits (256 ^ n) ≤ 64 := Nat.le_trans (bits_pow256 n) (by omega)
theorem law_spec (ns : List Int) (hlen : ns.length ≤ 63) (hb : ∀ n ∈ ns, intBits n ≤ 1048576) : Spec (fnsOf P) 50 lawF [IL ns] (.bool true) := by
  rintro c hf hlv ⟨L, fa, cd, hE⟩
  obtain ⟨xs, hxs⟩ : ∃ xs, xs = if (!ns.isEmpty) = true then ns else [77] := ⟨_, rfl⟩
  have hxl : 0 < xs.length ∧ xs.length ≤ 63 := by
    rw [hxs]; split
    · rename_i q; cases ns with
      | nil => cases q
      | cons a b => exact ⟨by simp, hlen⟩
    · exact ⟨by decide, by decide⟩
  obtain ⟨rs, hrs⟩ : ∃ rs : Runs, rs = xs.map fun x => (octOf x, cntOf x) := ⟨_, rfl⟩
  have hrl : rs.length = xs.length := by rw [hrs]; simp
  have hg : Good rs := by
    intro r hr
    rw [hrs] at hr
    obtain ⟨x, _, rfl⟩ := List.mem_map.mp hr
    refine ⟨octOf_oct x, ?_, ?_⟩ <;> (unfold cntOf; dsimp only; omega)
  refine Ex.cons (Ex1.assignComp (xs := xs.map PV.int) (vs := rs.map PR) (IterOk.ints (Ev.ifexp (b := !ns.isEmpty) (Tst.cmp (Ev.w (by walk_at "m ev")) (Ev.w Ev.listI0) Cmp.neNilI rfl) ?_)) ?_ (by simp [hrl]) (by simp; omega) (by decide) (by decide) rfl (by decide) (fun _ => rfl) (by rw [hE]; rfl) (by simp) (by walk_at "m kd") ?_)
  · rw [hxs]; split
    · walk_at "m ev"
    · walk_at "m ev"
  · have e : rs.map PR = xs.map fun x => PR (octOf x, cntOf x) := by rw [hrs, List.map_map]; rfl
    rw [e]
    refine Elts.of ?_
    rintro c' hf' hlv' ⟨C, hC⟩ x hx
    refine ⟨_, Tgt.name (by simp) (by walk_at "m kd"), ?_⟩
    exact Ev.call (d := fnRun) (vs := [.int x]) (by rw [hf', hf]; exact List.mem_of_getElem? (i := 2) rfl) runC rfl (EvL.cons (by walk_at "m ev") EvL.nil rfl) (by omega) (run_spec x) (by walk_at "m kd") (by decide) rfl
  show Ex _ _ _ _ _
  obtain ⟨n, hn⟩ : ∃ n, rs.length = n + 1 := ⟨rs.length - 1, by omega⟩
  walk_at "m as"
  walk_at "m as"
  refine Ex.cons (Ex1.for (xs := rs.map PR) (IterOk.list (by walk_at "m ev")) (fun i m k => k = none ∧ m "runs" = some (RL rs) ∧ m "value" = some (.int (uval (octs (flat (rs.take i))))) ∧ m "weight" = some (.int (256 ^ (flat (rs.take i)).length))) ⟨rfl, by walk_at "m lk", by walk_at "m lk", by walk_at "m lk"⟩ ?_ ?_ (fun _ => rfl))
  · rintro i v m' k' hv ⟨rfl, h1, h2, h3⟩
    rw [List.getElem?_map] at hv
    cases hz : rs[i]? with
    | none => rw [hz] at hv; cases hv
    | some r =>
    rw [hz] at hv
    cases hv
    have hi := (List.getElem?_eq_some_iff.mp hz).1
    have hr := hg r (List.mem_of_getElem? hz)
    have hfl := flat_last hg hi
    rw [show rs.getD i (0, 0) = r by simp [List.getD_eq_getElem?_getD, hz]] at hfl
    refine ⟨_, Tgt.pair (by simp) (by simp) (by walk_at "m kd") (by walk_at "m kd"), ?_⟩
    obtain ⟨⟨ho, hn1, hn4⟩⟩ : Nonempty ((0 ≤ r.1 ∧ r.1 < 256) ∧ 1 ≤ r.2 ∧ r.2 ≤ 4) := ⟨hr⟩
    clear hr
    refine Ex.cons (Ex1.aug (v1 := .int (uval (octs (flat (rs.take i))))) (v2 := .int (r.1 * ((256 ^ r.2 - 1) / 255) * 256 ^ (flat (rs.take i)).length)) (by walk_at "m lk") (Ev.bin (v1 := .int (r.1 * ((256 ^ r.2 - 1) / 255))) (Ev.bin (v1 := .int r.1) (v2 := .int ((256 ^ r.2 - 1) / 255)) (by walk_at "m ev") (by walk_at "m ev") (Bin.mul (IntMulOk.of_left (Nat.le_trans (bits_oct ho.1 ho.2) (by decide))))) (by walk_at "m ev") (Bin.mul (IntMulOk.of_left (small_run ho hn4)))) IBin.add (by simp) (by walk_at "m kd") ?_)
    show Ex _ _ _ _ _
    refine Ex.cons (Ex1.aug (v1 := .int (256 ^ (flat (rs.take i)).length)) (v2 := .int (256 ^ r.2)) (by walk_at "m lk") (by walk_at "m ev") (IBin.mul (IntMulOk.of_right (small_pow4 hn4))) (by simp) (by walk_at "m kd") ?_)
    show Ex _ _ _ _ _
    refine Ex.nil ⟨rfl, by walk_at "m lk", ?_, ?_⟩
    · have e : uval (octs (flat (rs.take (i + 1)))) = uval (octs (flat (rs.take i))) + r.1 * ((256 ^ r.2 - 1) / 255) * 256 ^ (flat (rs.take i)).length := by
        rw [hfl, octs_append, uval_append, octs_length, uval_geo ho, Int.mul_comm (256 ^ _)]
      rw [e]
      walk_at "m lk"
    · have e : (256 : Int) ^ (flat (rs.take (i + 1))).length = 256 ^ (flat (rs.take i)).length * 256 ^ r.2 := by
        rw [hfl, List.length_append, List.length_replicate, Int.pow_add]
      rw [e]
      walk_at "m lk"
  · rintro m' k' ⟨rfl, h1, h2, h3⟩
    rw [List.length_map, List.take_length] at h2 h3
    show Ex _ _ _ _ _
    obtain ⟨f, hfd⟩ : ∃ f : Int, f = if 127 < (rs.getD n (0, 0)).1 then 255 else 0 := ⟨_, rfl⟩
    have hf0 : f = 0 ∨ f = 255 := by rw [hfd]; split <;> simp
    obtain ⟨a1, a2⟩ := last_flat hg (n := n) (by omega)
    rw [← hn, List.take_length] at a1 a2
    have hO := flat_oct hg
    have hng := neg_octs hO a2
    rw [a1] at hng
    have hfl := flat_len hg
    have hdec : dec (octs (flat rs)) = if 127 < (rs.getD n (0, 0)).1 then uval (octs (flat rs)) - 256 ^ (flat rs).length else uval (octs (flat rs)) := by
      unfold dec
      rw [hng, octs_length]
      simp only [decide_eq_true_eq]
    have hle := law8 hg hn hfd
    walk_at "m as"
    refine Ex.seq (fun m k => k = none ∧ m "runs" = some (RL rs) ∧ m "fill" = some (.int f) ∧ m "value" = some (.int (dec (octs (flat rs))))) (Ex1.ite (b := decide (127 < (rs.getD n (0, 0)).1)) (Tst.cmp (Ev.w (Ev.itemT (j := 0) (xs := [.int (rs.getD n (0, 0)).1, .int ((rs.getD n (0, 0)).2 : Int)]) (Ev.item (xs := rs.map PR) (by walk_at "m ev") (Ev.usub Ev.cint) (at_last hn) (by simp; omega) (fun _ _ => rfl)) Ev.cint rfl (by simp) (fun _ _ => rfl))) (Ev.w Ev.cint) Cmp.gt rfl) (fun hc => ?_) (fun hc => ?_)) ?_
    · have hc := of_decide_eq_true hc
      rw [if_pos hc] at hfd hdec
      rw [hfd, hdec]
      clear hle hdec hfd
      walk_at "m as"
      walk_at "m au"
      exact Ex.nil ⟨rfl, rfl, by walk_at "m lk", by walk_at "m lk", by walk_at "m lk"⟩
    · have hc := of_decide_eq_false hc
      rw [if_neg hc] at hfd hdec
      rw [hfd, hdec]
      exact Ex.nil ⟨rfl, rfl, by walk_at "m lk", by walk_at "m lk", by walk_at "m lk"⟩
    · clear h1 h2 h3 hdec hfd hng a1
      rintro m' k' ⟨rfl, h1, h2, h3⟩
      have hbN : intBits (dec (octs (flat rs))) ≤ 32000000 := Nat.le_trans (bits_dec _) (by rw [octs_length]; omega)
      refine Ex.cons (Ex1.assign (v := .int (dec (octs (flat rs)))) (Ev.decode hf (by omega) (Ev.joinedR hf (by omega) (by walk_at "m ev") hg (by omega) (by walk_at "m kd") rfl) (by rw [octs_length]; omega) (by walk_at "m kd") rfl) (by simp) (by walk_at "m kd") rfl ?_)
      show Ex _ _ _ _ _
      refine Ex.cons (Ex1.ite (b := false) ?_ (fun h => by cases h) (fun _ => ?_))
      · apply Tst.cast
        case h => walk_at "m tst"
        case e' => simp
      refine Ex.nil ?_
      show Ex _ _ _ _ _
      refine Ex.cons (Ex1.assign (v := .bytes (enc (dec (octs (flat rs))))) (Ev.encode hf (by omega) (by walk_at "m ev") hbN (by walk_at "m kd") rfl) (by simp) (by walk_at "m kd") rfl ?_)
      show Ex _ _ _ _ _
      refine Ex.cons (Ex1.ret (Ev.w (Ev.cast (Ev.and2 (b := true) (b' := enc (dec (octs (flat rs))) == octs (least rs f)) (Ev.isBytes (Ev.w (by walk_at "m ev")) (by walk_at "m kd") (by walk_at "m kd") rfl) (fun _ => Ev.cmp (Ev.w (by walk_at "m ev")) (Ev.w (Ev.call (d := fnLeast) (vs := [RL rs, .int f]) (by rw [hf]; exact List.mem_of_getElem? (i := 4) rfl) leastC rfl (EvL.cons (by walk_at "m ev") (EvL.cons (by walk_at "m ev") EvL.nil rfl) rfl) (by omega) (by rw [hf]; exact least_spec rs f hg (by omega) hf0 (by omega)) (by walk_at "m kd") (by decide) rfl)) Cmp.eqBytes rfl)) (by rw [hle]; simp))) rfl)
end Mine
open PySem PySem.W PyProof.Rows
set_option maxHeartbeats 8000000 in
theorem PySem.Challenge.cw_dm0231_08_holds : PySem.Challenge.rw_dm0231_08.Holds := by
  w_on; o_law; k_head; (case hw => w_witness2)
  k_go0
  rename Top _ _ _ _ _ _ => T
  rename Fr _ _ _ _ => F
  rename IntsAre _ _ => hI
  rename Well _ _ _ _ => hW
  rename PyData.layable0 _ = true => hL
  rename Shared.gens _ = #[] => hg
  rename Heap.IsList _ _ _ => hIL
  rename ¬ (_ < _) => hlen
  cases hW with
  | list hl _ =>
  refine wpAny_mono (Mine.enter (d := Mine.lawF) (E := fun _ _ => False) (fns := Mine.fnsOf PySem.Challenge.pw_dm0231_08) (Mine.base_of T (T.seer (by decide +kernel)) (by decide +kernel)) (Mine.isL_of hl hIL) hI rfl Mine.lawC F (Mine.law_spec _ (by omega) (fun n hn => PySem.intBits_le_of_item hn hL))) ?_ ?_
  · rintro f s' ⟨rfl, ⟨mv, F'⟩, h1, h2⟩
    refine goodW_bool F' (h1.trans hg) (raisesW_false ?_) ?_ h2
    · wrow_none_raised
    · wrow_post
  · intro _ _ h; exact h.elim
