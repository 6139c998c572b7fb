import PyProof.Rows.All
import Wide.All
import OpenK.AllK
import Wide.FinOn
import Lean
import PySem.Challenge.RW_pd0136_01
set_option Elab.async false
set_option maxRecDepth 100000
set_option linter.unusedVariables false
section
open PySem PySem.W PyProof.Rows
namespace Mine
set_option maxHeartbeats 0
open_top hd for PySem.Challenge.rw_pd0136_01
end Mine
end
section PdAPart
open PySem PySem.W PyProof.Rows
namespace Mine

/-! the logic: plain data, what represents it, what an expression gives -/
abbrev PH := Addr → Option Obj
def Ext (h h' : Heap) : Prop := ∀ b o, h.get? b = some o → h'.get? b = some o
def Le (P P' : PH) : Prop := ∀ b o, P b = some o → P' b = some o
def hide (mu : List Addr) (h : Heap) : PH := fun b => if b ∈ mu then none else h.get? b

theorem Ext.refl (h : Heap) : Ext h h := fun _ _ e => e
theorem Ext.trans {h h' h'' : Heap} (a : Ext h h') (b : Ext h' h'') : Ext h h'' := fun x o e => b x o (a x o e)
theorem Ext.push (h : Heap) (o : Obj) : Ext h (h.push o) := fun _ _ e => Heap.get?_push_of_some o e
theorem hide_some {mu : List Addr} {h : Heap} {b : Addr} {o : Obj} (e : hide mu h b = some o) : b ∉ mu ∧ h.get? b = some o := by
  unfold hide at e; split at e
  · cases e
  · exact ⟨by assumption, e⟩
theorem hide_of {mu : List Addr} {h : Heap} {b : Addr} {o : Obj} (hb : b ∉ mu) (e : h.get? b = some o) : hide mu h b = some o := by
  unfold hide; rw [if_neg hb]; exact e
theorem Le.refl (P : PH) : Le P P := fun _ _ e => e
theorem hide_ext {mu : List Addr} {h h' : Heap} (x : Ext h h') : Le (hide mu h) (hide mu h') := fun b o e =>
  let ⟨h1, h2⟩ := hide_some e; hide_of h1 (x b o h2)
theorem hide_sub {mu mu' : List Addr} {h : Heap} (x : ∀ b ∈ mu, b ∈ mu') : Le (hide mu' h) (hide mu h) := fun _ _ e =>
  let ⟨h1, h2⟩ := hide_some e; hide_of (fun q => h1 (x _ q)) h2
theorem hide_new {mu new : List Addr} {h h' : Heap} (hn : ∀ b ∈ new, h.get? b = none) (x : Ext h h') : Le (hide mu h) (hide (new ++ mu) h') := fun b o e => by
  obtain ⟨h1, h2⟩ := hide_some e
  refine hide_of (fun q => ?_) (x b o h2)
  rcases List.mem_append.mp q with q | q
  · rw [hn b q] at h2; cases h2
  · exact h1 q
theorem hide_sameBut {mu : List Addr} {a : Addr} {h h' : Heap} (ha : a ∈ mu) (x : Heap.SameBut a h h') : Le (hide mu h) (hide mu h') := fun b o e => by
  obtain ⟨h1, h2⟩ := hide_some e
  exact hide_of h1 ((x.2 b (fun q => h1 (q ▸ ha))).trans h2)

inductive D where
  | none | bool (b : Bool) | int (i : Int) | str (x : Str) | typ (n : String) | list (ds : List D) | tup (ds : List D) | rng (a b c : Int)

abbrev lObj (vs : Array Value) (n : Nat) : Obj := { cls := .type "list", data := .seq vs n }
abbrev tObj (vs : Array Value) (n : Nat) : Obj := { cls := .type "tuple", data := .seq vs n }

mutual
inductive Rep (P : PH) : Value → D → Prop where
  | none : Rep P .none .none
  | bool (b : Bool) : Rep P (.bool b) (.bool b)
  | int (i : Int) (t : Tok) : Rep P (.int i t) (.int i)
  | str (x : Str) (t : Tok) : Rep P (.str x t) (.str x)
  | typ (n : String) : Rep P (.type n) (.typ n)
  | list {a : Addr} {o : Obj} {vs : Array Value} {n : Nat} {ds : List D} : P a = some o → o.cls = .type "list" → o.data = .seq vs n → Reps P vs.toList ds → Rep P (.ref a) (.list ds)
  | tup {a : Addr} {o : Obj} {vs : Array Value} {n : Nat} {ds : List D} : P a = some o → o.cls = .type "tuple" → o.data = .seq vs n → Reps P vs.toList ds → Rep P (.ref a) (.tup ds)
  | rng {r : Addr} {a b c : Int} {t u v : Tok} : P r = some { cls := .type "range", dict := none, data := .fields #[.int a t, .int b u, .int c v], slots := #[] } → Rep P (.ref r) (.rng a b c)
inductive Reps (P : PH) : List Value → List D → Prop where
  | nil : Reps P [] []
  | cons {v : Value} {d : D} {vs : List Value} {ds : List D} : Rep P v d → Reps P vs ds → Reps P (v :: vs) (d :: ds)
end

mutual
theorem Rep.mono {P P' : PH} (l : Le P P') : ∀ {v : Value} {d : D}, Rep P v d → Rep P' v d
  | _, _, .none => .none
  | _, _, .bool b => .bool b
  | _, _, .int i t => .int i t
  | _, _, .str x t => .str x t
  | _, _, .typ n => .typ n
  | _, _, .list e a b r => .list (l _ _ e) a b (Reps.mono l r)
  | _, _, .tup e a b r => .tup (l _ _ e) a b (Reps.mono l r)
  | _, _, .rng e => .rng (l _ _ e)
theorem Reps.mono {P P' : PH} (l : Le P P') : ∀ {vs : List Value} {ds : List D}, Reps P vs ds → Reps P' vs ds
  | _, _, .nil => .nil
  | _, _, .cons a b => .cons (Rep.mono l a) (Reps.mono l b)
end

theorem Reps.length {P : PH} : ∀ {vs : List Value} {ds : List D}, Reps P vs ds → vs.length = ds.length
  | _, _, .nil => rfl
  | _, _, .cons _ b => by simp [Reps.length b]
theorem Reps.get {P : PH} : ∀ {vs : List Value} {ds : List D}, Reps P vs ds → ∀ {i : Nat} {d : D}, ds[i]? = some d → ∃ v, vs[i]? = some v ∧ Rep P v d
  | _, _, .nil, _, _, e => by simp at e
  | _, _, .cons a b, 0, _, e => by simp at e; subst e; exact ⟨_, rfl, a⟩
  | _, _, .cons a b, i + 1, _, e => by simp at e; simpa using Reps.get b e
theorem Reps.append {P : PH} : ∀ {vs vs' : List Value} {ds ds' : List D}, Reps P vs ds → Reps P vs' ds' → Reps P (vs ++ vs') (ds ++ ds')
  | _, _, _, _, .nil, r => r
  | _, _, _, _, .cons a b, r => .cons a (Reps.append b r)
theorem Reps.take {P : PH} : ∀ {vs : List Value} {ds : List D} (n : Nat), Reps P vs ds → Reps P (vs.take n) (ds.take n)
  | _, _, 0, _ => by simpa using Reps.nil
  | _, _, n + 1, .nil => by simpa using Reps.nil
  | _, _, n + 1, .cons a b => by simpa using Reps.cons a (Reps.take n b)
theorem Reps.drop {P : PH} : ∀ {vs : List Value} {ds : List D} (n : Nat), Reps P vs ds → Reps P (vs.drop n) (ds.drop n)
  | _, _, 0, r => by simpa using r
  | _, _, n + 1, .nil => by simpa using Reps.nil
  | _, _, n + 1, .cons a b => by simpa using Reps.drop n b
theorem Reps.reverse {P : PH} : ∀ {vs : List Value} {ds : List D}, Reps P vs ds → Reps P vs.reverse ds.reverse
  | _, _, .nil => by simpa using Reps.nil
  | _, _, .cons a b => by simpa using Reps.append (Reps.reverse b) (Reps.cons a .nil)

theorem Rep.strE {P : PH} {v : Value} {x : Str} (r : Rep P v (.str x)) : ∃ t, v = .str x t := by cases r; exact ⟨_, rfl⟩
theorem Rep.intE {P : PH} {v : Value} {i : Int} (r : Rep P v (.int i)) : ∃ t, v = .int i t := by cases r; exact ⟨_, rfl⟩
theorem Rep.boolE {P : PH} {v : Value} {b : Bool} (r : Rep P v (.bool b)) : v = .bool b := by cases r; rfl
theorem Rep.noneE {P : PH} {v : Value} (r : Rep P v .none) : v = .none := by cases r; rfl
theorem Rep.typE {P : PH} {v : Value} {n : String} (r : Rep P v (.typ n)) : v = .type n := by cases r; rfl
theorem Rep.listE {mu : List Addr} {h : Heap} {v : Value} {ds : List D} (r : Rep (hide mu h) v (.list ds)) : ∃ a vs, v = .ref a ∧ a ∉ mu ∧ h.IsList a vs ∧ Reps (hide mu h) vs.toList ds := by
  cases r with | list e a b r => obtain ⟨h1, h2⟩ := hide_some e; exact ⟨_, _, rfl, h1, ⟨_, h2, a, _, b⟩, r⟩
theorem Rep.tupE {mu : List Addr} {h : Heap} {v : Value} {ds : List D} (r : Rep (hide mu h) v (.tup ds)) : ∃ a vs, v = .ref a ∧ a ∉ mu ∧ IsTup h a vs ∧ Reps (hide mu h) vs.toList ds := by
  cases r with | tup e a b r => obtain ⟨h1, h2⟩ := hide_some e; exact ⟨_, _, rfl, h1, ⟨_, h2, a, _, b⟩, r⟩
theorem Rep.rngE {mu : List Addr} {h : Heap} {v : Value} {a b c : Int} (r : Rep (hide mu h) v (.rng a b c)) : ∃ p t u w, v = .ref p ∧ p ∉ mu ∧ IsRange h p a b c t u w := by
  cases r with | rng e => obtain ⟨h1, h2⟩ := hide_some e; exact ⟨_, _, _, _, rfl, h1, h2⟩
theorem Rep.ofList {mu : List Addr} {h : Heap} {a : Addr} {vs : Array Value} {ds : List D} (ha : a ∉ mu) (hl : h.IsList a vs) (r : Reps (hide mu h) vs.toList ds) : Rep (hide mu h) (.ref a) (.list ds) := by
  obtain ⟨o, ho, hc, n, hd⟩ := hl
  exact .list (hide_of ha ho) hc hd r
theorem Rep.ofTup {mu : List Addr} {h : Heap} {a : Addr} {vs : Array Value} {ds : List D} (ha : a ∉ mu) (hl : IsTup h a vs) (r : Reps (hide mu h) vs.toList ds) : Rep (hide mu h) (.ref a) (.tup ds) := by
  obtain ⟨o, ho, hc, n, hd⟩ := hl
  exact .tup (hide_of ha ho) hc hd r

/-- what the top's run left, as far as it is asked -/
structure Gl (K : Frag) (h : Heap) : Prop where
  kin : K.In h
  g : ∃ mg, h.Ns mainGlobals mg ∧ ∀ x r, nsIn K mainGlobals x = some r → mg x = r
  b : ∃ mb, h.Ns builtinsNs mb ∧ ∀ x, x ≠ Str.ofString "__name__" → mb x = bootBuiltins x
  lim : h.NoLimit
theorem Gl.ext {K : Frag} {h h' : Heap} (x : Gl K h) (e : Ext h h') : Gl K h' :=
  ⟨x.kin.keeps e, let ⟨m, a, b⟩ := x.g; ⟨m, a.keeps e, b⟩, let ⟨m, a, b⟩ := x.b; ⟨m, a.keeps e, b⟩, x.lim.keeps e⟩

structure Room (A : Around) (k : Nat) : Prop where
  hd : A.handled = none
  dp : A.depth + k < 1000
  un : A.units + 8 * k < 9900
theorem Room.deeper {A : Around} {k : Nat} {env : Env} (r : Room A (k + 1)) : Room (A.deeper env) k :=
  ⟨r.hd, by have := r.dp; show A.depth + 1 + k < 1000; omega, by have := r.un; show A.units + 3 + 8 * k < 9900; omega⟩
theorem Room.in1 {A : Around} {k : Nat} (r : Room A (k + 1)) : Room A.in1 k :=
  ⟨r.hd, by have := r.dp; show A.depth + k < 1000; omega, by have := r.un; show A.units + 1 + 8 * k < 9900; omega⟩
theorem Room.le {A : Around} {k k' : Nat} (r : Room A k) (h : k' ≤ k) : Room A k' := ⟨r.hd, by have := r.dp; omega, by have := r.un; omega⟩

/-- reading a name -/
def Rd (env : Env) (h : Heap) (x : Str) (v : Value) : Prop :=
  (env.kindOf x = some .local ∧ ∃ m, h.Ns env.locals m ∧ m x = some v) ∨
  ((env.kindOf x = some .cell ∨ env.kindOf x = some .free) ∧ ∃ c, env.cells.lookup x = some c ∧ h.IsCell c (some v))
theorem Rd.ext {env : Env} {h h' : Heap} {x : Str} {v : Value} (r : Rd env h x v) (e : Ext h h') : Rd env h' x v :=
  r.imp (fun ⟨a, m, b, c⟩ => ⟨a, m, b.keeps e, c⟩) fun ⟨a, c, b, d⟩ => ⟨a, c, b, d.keeps e⟩

structure EnvOk (env : Env) : Prop where
  fn : env.scope.kind = .function
  gg : env.globals = mainGlobals
  bb : env.builtins = builtinsNs

structure Cx where
  prog : Program
  w : World
  A : Around
  K : Frag
  env : Env
  mu : List Addr
  rho : Str → Option D
  ow : Option (Str × Addr × List D)
  pin : List (Addr × Obj) := []
  dat : Value → D → Prop := fun _ _ => False
abbrev Cx.M (c : Cx) : Model := model c.prog c.w

structure Sv (c : Cx) (h : Heap) : Prop where
  gl : Gl c.K h
  bound : ∀ b ∈ c.mu, (h.get? b).isSome = true
  rd : ∀ x d, c.rho x = some d → ∃ v, Rd c.env h x v ∧ Rep (hide c.mu h) v d
  own : ∀ x r ds, c.ow = some (x, r, ds) → Rd c.env h x (.ref r) ∧ ∃ vs n, h.get? r = some (lObj vs n) ∧ Reps (hide c.mu h) vs.toList ds
  pin : ∀ p ∈ c.pin, h.get? p.1 = some p.2
  dat : ∀ v d, c.dat v d → Rep (hide c.mu h) v d
/-- a new address is none of the frame's own -/
theorem Sv.fresh {c : Cx} {h : Heap} (x : Sv c h) {a : Addr} (ha : h.objs.size ≤ a) : a ∉ c.mu := fun q => by
  obtain ⟨o, ho⟩ := Option.isSome_iff_exists.mp (x.bound a q)
  exact absurd (Heap.lt_size ho) (Nat.not_lt.mpr ha)
theorem Sv.ext {c : Cx} {h h' : Heap} (x : Sv c h) (e : Ext h h') : Sv c h' where
  gl := x.gl.ext e
  bound := fun b hb => by
    obtain ⟨o, ho⟩ := Option.isSome_iff_exists.mp (x.bound b hb)
    rw [e b o ho]; rfl
  rd := fun y d hy => let ⟨v, r, p⟩ := x.rd y d hy; ⟨v, r.ext e, p.mono (hide_ext e)⟩
  own := fun y r ds hy => let ⟨a, vs, n, b, q⟩ := x.own y r ds hy; ⟨a.ext e, vs, n, e _ _ b, q.mono (hide_ext e)⟩
  pin := fun p hp => e _ _ (x.pin p hp)
  dat := fun v d q => (x.dat v d q).mono (hide_ext e)

structure Ev (c : Cx) (e : Expr) (d : D) : Prop where
  run :  ∀ (s : Shared) (Q : Value → Shared → Prop) (E : Value → Shared → Prop), Sv c s.heap →
    (∀ v h' tk, Ext s.heap h' → Rep (hide c.mu h') v d → Q v { s with heap := h', toks := tk }) → wpAny c.M c.A (eval e c.env) Q E s
structure Tr (c : Cx) (e : Expr) (b : Bool) : Prop where
  run :  ∀ (s : Shared) (Q : Bool → Shared → Prop) (E : Value → Shared → Prop), Sv c s.heap →
    (∀ h' tk, Ext s.heap h' → Q b { s with heap := h', toks := tk }) → wpAny c.M c.A (isTrue e c.env (eval e c.env)) Q E s
/-- the items of a display, or a call's arguments -/
structure Evs (c : Cx) (es : List Expr) (ds : List D) : Prop where
  run :  ∀ (pos : Pos) (s : Shared) (Q : List Value → Shared → Prop) (E : Value → Shared → Prop), Sv c s.heap →
    (∀ vs h' tk, Ext s.heap h' → Reps (hide c.mu h') vs ds → Q vs { s with heap := h', toks := tk }) → wpAny c.M c.A (spliced (backTo pos (starEach es c.env))) Q E s
/-- a def of the text, as a function on data -/
structure Fn (prog : Program) (w : World) (K : Frag) (k : Nat) (a : Addr) (ds : List D) (d : D) : Prop where
  run : ∀ (A : Around) (s : Shared) (mu : List Addr) (vs : List Value) (Q : Value → Shared → Prop) (E : Value → Shared → Prop),
    Room A k → Gl K s.heap → (∀ b ∈ mu, (s.heap.get? b).isSome = true) → Reps (hide mu s.heap) vs ds →
    (∀ v h' tk, Ext s.heap h' → Rep (hide mu h') v d → Q v { s with heap := h', toks := tk }) → wpAny (model prog w) A (call (.ref a) vs) Q E s

section
variable {c : Cx}
theorem Ev.name {x : Str} {pos : Pos} {d : D} (ok : EnvOk c.env) (hx : c.rho x = some d) (hd : (x == ("__debug__" : Str)) = false) (hc : (x == ("__classdict__" : Str)) = false) : Ev c (.Name x pos) d := by
  refine ⟨?_⟩
  intro s Q E sv h
  obtain ⟨v, r, p⟩ := sv.rd x d hx
  refine wpAny_Name ?_ hd
  rcases r with ⟨hl, m, hn, hm⟩ | ⟨hl | hl, a, ha, hcl⟩
  · exact wpAny_loadName_local ok.fn hl hn hm (h v s.heap s.toks (Ext.refl _) p)
  · exact wpAny_loadName_cell ok.fn hl ha hcl (h v s.heap s.toks (Ext.refl _) p)
  · exact wpAny_loadName_free ok.fn hl ha hcl (h v s.heap s.toks (Ext.refl _) p) hc
theorem Ev.str {x : Str} {k : Nat} {pos : Pos} : Ev c (.Constant (.str x) k pos) (.str x) := ⟨fun s _ _ _ h => Calls.Constant_str (h _ s.heap _ (Ext.refl _) (.str _ _))⟩
theorem Ev.int {i : Int} {k : Nat} {pos : Pos} : Ev c (.Constant (.int i) k pos) (.int i) := ⟨fun s _ _ _ h => wpAny_Constant_int (h _ s.heap _ (Ext.refl _) (.int _ _))⟩
theorem Ev.bool {b : Bool} {k : Nat} {pos : Pos} : Ev c (.Constant (.bool b) k pos) (.bool b) := ⟨fun s _ _ _ h => wpAny_Constant_bool (h _ s.heap s.toks (Ext.refl _) (.bool _))⟩

theorem Evs.nil : Evs c [] [] := ⟨fun _ s _ _ _ h => wpAny_items_nil (h [] s.heap s.toks (Ext.refl _) .nil)⟩
theorem Evs.cons {e : Expr} {es : List Expr} {d : D} {ds : List D} (h1 : Ev c e d) (h2 : Evs c es ds)
    (he : starEach (e :: es) c.env = (false, eval e c.env) :: starEach es c.env) : Evs c (e :: es) (d :: ds) := by
  refine ⟨?_⟩
  intro pos s Q E sv h
  refine wpAny_items_cons (h1.run s _ _ sv fun v h' tk x p => ?_) he
  exact h2.run pos _ _ _ (sv.ext x) fun vs h'' tk' x' ps => h (v :: vs) h'' tk' (x.trans x') (.cons (p.mono (hide_ext x')) ps)
theorem Evs.one {e : Expr} {d : D} (h1 : Ev c e d) (he : starEach [e] c.env = [(false, eval e c.env)]) : Evs c [e] [d] := Evs.cons h1 .nil he

/-- arguments, as a call takes them -/
theorem evalArgs_of {es : List Expr} {ds : List D} (f : Value) (he : Evs c es ds) (hb : (starEach es c.env).all (fun x => !x.1) = true) (pos : Pos) (s : Shared) (Q : Args → Shared → Prop) (E : Value → Shared → Prop) (sv : Sv c s.heap)
    (h : ∀ vs h' tk, Ext s.heap h' → Reps (hide c.mu h') vs ds → Q ⟨vs, []⟩ { s with heap := h', toks := tk }) : wpAny c.M c.A (evalArgs f true (backTo pos (starEach es c.env)) []) Q E s := by
  have key := he.run pos s (fun vs s' => Q ⟨vs, []⟩ s') E sv h
  revert key
  cases hs : starEach es c.env with
  | nil =>
    intro key
    unfold evalArgs
    show wpAny c.M c.A (spliced [] >>= _) Q E s
    refine wpAny_bind (wpAny_mono key (fun vs s' h' => ?_) fun _ _ x => x)
    refine wpAny_holding ?_
    exact wpAny_bind (wpAny_pure (wpAny_bind (wpAny_pure (wpAny_pure h'))))
  | cons x r =>
    obtain ⟨b, t⟩ := x
    have : b = false := by
      have := hb; rw [hs] at this; simp at this; exact this.1
    subst this
    intro key
    exact Calls.evalArgs_plain key
end
end Mine
end PdAPart
section PdBPart
open PySem PySem.W PyProof.Rows
namespace Mine

/-- a call of a value on data -/
structure Bi (c : Cx) (f : Value) (ds : List D) (d : D) : Prop where
  run :  ∀ (s : Shared) (vs : List Value) (Q : Value → Shared → Prop) (E : Value → Shared → Prop), Sv c s.heap → Reps (hide c.mu s.heap) vs ds →
    (∀ v h' tk, Ext s.heap h' → Rep (hide c.mu h') v d → Q v { s with heap := h', toks := tk }) → wpAny c.M c.A (call f vs) Q E s
structure BinR (c : Cx) (op : Operator) (d1 d2 d : D) : Prop where
  run :  ∀ (s : Shared) (a b : Value) (Q : Value → Shared → Prop) (E : Value → Shared → Prop), Sv c s.heap → Rep (hide c.mu s.heap) a d1 → Rep (hide c.mu s.heap) b d2 →
    (∀ v h' tk, Ext s.heap h' → Rep (hide c.mu h') v d → Q v { s with heap := h', toks := tk }) → wpAny c.M c.A (binaryOp op a b) Q E s
structure CmpR (c : Cx) (op : CmpOp) (d1 d2 : D) (r : Bool) : Prop where
  run :  ∀ (s : Shared) (a b : Value) (Q : Value → Shared → Prop) (E : Value → Shared → Prop), Sv c s.heap → Rep (hide c.mu s.heap) a d1 → Rep (hide c.mu s.heap) b d2 →
    (∀ h' tk, Ext s.heap h' → Q (.bool r) { s with heap := h', toks := tk }) → wpAny c.M c.A (compareOp op a b) Q E s

section
variable {c : Cx}
theorem Fn.bi {k : Nat} {a : Addr} {ds : List D} {d : D} (f : Fn c.prog c.w c.K k a ds d) (r : Room c.A k) : Bi c (.ref a) ds d :=
  ⟨fun s vs Q E sv hr h => f.run c.A s c.mu vs Q E r sv.gl sv.bound hr h⟩

theorem Ev.bin {l r : Expr} {op : Operator} {pos : Pos} {d1 d2 d : D} (h1 : Ev c l d1) (h2 : Ev c r d2) (hop : BinR c op d1 d2 d) : Ev c (.BinOp l op r pos) d := by
  refine ⟨?_⟩
  intro s Q E sv h
  refine wpAny_BinOp (h1.run s _ _ sv fun a h' tk x p => h2.run _ _ _ (sv.ext x) fun b h'' tk' x' p' => ?_)
  exact hop.run _ a b Q E ((sv.ext x).ext x') (p.mono (hide_ext x')) p' fun v h₃ tk₃ x₃ p₃ => h v h₃ tk₃ ((x.trans x').trans x₃) p₃
theorem Ev.cmp {l r : Expr} {op : CmpOp} {pos : Pos} {d1 d2 : D} {b : Bool} (h1 : Ev c l d1) (h2 : Ev c r d2) (hop : CmpR c op d1 d2 b) (hm : behindInMarks op r = false) : Ev c (.Compare l [op] [r] pos) (.bool b) := by
  refine ⟨?_⟩
  intro s Q E sv h
  refine wpAny_Compare1 (h1.run s _ _ sv fun a h' tk x p => h2.run _ _ _ (sv.ext x) fun b h'' tk' x' p' => ?_) hm
  exact hop.run _ a b Q E ((sv.ext x).ext x') (p.mono (hide_ext x')) p' fun h₃ tk₃ x₃ => h _ h₃ tk₃ ((x.trans x').trans x₃) (.bool _)
theorem Tr.cmp {l r : Expr} {op : CmpOp} {pos : Pos} {d1 d2 : D} {b : Bool} (h1 : Ev c l d1) (h2 : Ev c r d2) (hop : CmpR c op d1 d2 b) (hm : behindInMarks op r = false) : Tr c (.Compare l [op] [r] pos) b := by
  refine ⟨?_⟩
  intro s Q E sv h
  refine wpAny_isTrue_Compare1 (h1.run s _ _ sv fun a h' tk x p => h2.run _ _ _ (sv.ext x) fun b h'' tk' x' p' => ?_) hm
  exact hop.run _ a b _ E ((sv.ext x).ext x') (p.mono (hide_ext x')) p' fun h₃ tk₃ x₃ => wpAny_truthy_bool (h h₃ tk₃ ((x.trans x').trans x₃))
theorem Tr.not {e : Expr} {pos : Pos} {b : Bool} (h1 : Tr c e b) : Tr c (.UnaryOp .Not e pos) (!b) := by
  refine ⟨?_⟩
  intro s Q E sv h
  exact wpAny_isTrue_Not (h1.run s _ _ sv h)
theorem Tr.and2 {x y : Expr} {pos : Pos} {a b : Bool} (h1 : Tr c x a) (h2 : a = true → Tr c y b) : Tr c (.BoolOp .And [x, y] pos) (a && b) := by
  refine ⟨?_⟩
  intro s Q E sv h
  refine wpAny_isTrue_BoolOp (wpAny_allTrue_And_cons (h1.run s _ _ sv fun h' tk x => ?_))
  cases a with
  | false => exact h _ _ x
  | true => exact wpAny_allTrue_And_cons ((h2 rfl).run _ _ _ (sv.ext x) fun h'' tk' x' => by cases b with
    | false => exact h _ _ (x.trans x')
    | true => exact wpAny_allTrue_And_nil (h _ _ (x.trans x')))
theorem Tr.or2 {x y : Expr} {pos : Pos} {a b : Bool} (h1 : Tr c x a) (h2 : a = false → Tr c y b) : Tr c (.BoolOp .Or [x, y] pos) (a || b) := by
  refine ⟨?_⟩
  intro s Q E sv h
  refine wpAny_isTrue_BoolOp (wpAny_allTrue_Or_cons (h1.run s _ _ sv fun h' tk x => ?_))
  cases a with
  | true => exact h _ _ x
  | false => exact wpAny_allTrue_Or_cons ((h2 rfl).run _ _ _ (sv.ext x) fun h'' tk' x' => by cases b with
    | true => exact h _ _ (x.trans x')
    | false => exact wpAny_allTrue_Or_nil (h _ _ (x.trans x')))
/-- truth of a value -/
theorem Tr.val {e : Expr} {b : Bool} (h1 : Ev c e (.bool b)) (he : ∀ whole : Sem Value, isTrue e c.env whole = (do let v ← whole; standAt e.pos; holding [v] (truthy v))) : Tr c e b := by
  refine ⟨?_⟩
  intro s Q E sv h
  refine wpAny_isTrue_value (h1.run s _ _ sv fun v h' tk x p => ?_) (he _)
  rw [p.boolE]
  exact wpAny_truthy_bool (h _ _ x)
theorem Tr.valS {e : Expr} {x : Str} (h1 : Ev c e (.str x)) (hx : x.length < 2 ^ 62) (he : ∀ whole : Sem Value, isTrue e c.env whole = (do let v ← whole; standAt e.pos; holding [v] (truthy v))) : Tr c e (x.length != 0) := by
  refine ⟨?_⟩
  intro s Q E sv h
  refine wpAny_isTrue_value (h1.run s _ _ sv fun v h' tk y p => ?_) (he _)
  obtain ⟨t, rfl⟩ := p.strE
  have e1 : ((x.length : Int) != 0) = (x.length != 0) := by rw [Bool.eq_iff_iff]; simp
  exact PySem.P.truthy_str (by omega) (e1 ▸ h h' (tk + 1 + 1) y)
theorem Ev.ifexp {t x y : Expr} {pos : Pos} {b : Bool} {d : D} (h1 : Tr c t b) (h2 : b = true → Ev c x d) (h3 : b = false → Ev c y d) : Ev c (.IfExp t x y pos) d := by
  refine ⟨?_⟩
  intro s Q E sv h
  refine wpAny_IfExp (h1.run s _ _ sv fun h' tk x => ?_)
  cases b with
  | true => exact (h2 rfl).run _ _ _ (sv.ext x) fun v h'' tk' x' p => h v h'' tk' (x.trans x') p
  | false => exact (h3 rfl).run _ _ _ (sv.ext x) fun v h'' tk' x' p => h v h'' tk' (x.trans x') p
theorem Ev.and2 {x y : Expr} {pos : Pos} {a b : Bool} (h1 : Ev c x (.bool a)) (h2 : a = true → Ev c y (.bool b)) : Ev c (.BoolOp .And [x, y] pos) (.bool (a && b)) := by
  refine ⟨?_⟩
  intro s Q E sv h
  refine wpAny_And2 (h1.run s _ _ sv fun v h' tk x p => ?_)
  rw [p.boolE]
  refine wpAny_truthy_bool ?_
  cases a with
  | false => exact h _ _ _ x (.bool _)
  | true => exact (h2 rfl).run _ _ _ (sv.ext x) fun v h'' tk' x' p => h v h'' tk' (x.trans x') p
theorem Ev.neg {e : Expr} {pos : Pos} {i : Int} (h1 : Ev c e (.int i)) : Ev c (.UnaryOp .USub e pos) (.int (-i)) := by
  refine ⟨?_⟩
  intro s Q E sv h
  refine wpAny_UnaryOp (h1.run s _ _ sv fun v h' tk x p => ?_)
  obtain ⟨t, rfl⟩ := p.intE
  exact PySem.P.neg_int (h _ _ _ x (.int _ _))

/-- a def of the text, called by its name -/
theorem Ev.call {f : Str} {p pos : Pos} {args : List Expr} {a : Addr} {o : Obj} {fd : FuncData} {ds : List D} {d : D} (ok : EnvOk c.env) (hf : nsIn c.K mainGlobals f = some (some (.ref a))) (hk : c.env.kindOf f = some .globalImplicit)
    (ho : c.K.lookup a = some o) (hfd : o.data = .func fd) (ha : Evs c args ds) (hb : (starEach args c.env).all (fun x => !x.1) = true) (hc : Bi c (.ref a) ds d) (hd : (f == ("__debug__" : Str)) = false) : Ev c (.Call (.Name f p) args [] pos) d := by
  refine ⟨?_⟩
  intro s Q E sv h
  obtain ⟨mg, hg, hm⟩ := sv.gl.g
  refine wpAny_Call_Name_kw (Calls.Name_function_global ok.fn hk (Calls.loadGlobal_global (by rw [ok.gg]; exact hg) (hm _ _ hf) ?_) hd)
  refine Calls.callWith_function (o := o) (fd := fd) (evalArgs_of _ ha hb pos s _ _ sv fun vs h' tk x ps => ?_)
  refine ⟨⟨x _ _ (sv.gl.kin _ _ ho), hfd⟩, ?_⟩
  exact hc.run _ vs Q E (sv.ext x) ps fun v h'' tk' x' q => h v h'' tk' (x.trans x') q
/-- a built-in function, called by its name -/
theorem Ev.callB {f : Str} {p pos : Pos} {args : List Expr} {id : String} {ds : List D} {d : D} (ok : EnvOk c.env) (hf : nsIn c.K mainGlobals f = some none) (hv : bootBuiltins f = some (.builtin id)) (hn : f ≠ Str.ofString "__name__") (hk : c.env.kindOf f = some .globalImplicit)
    (ha : Evs c args ds) (hb : (starEach args c.env).all (fun x => !x.1) = true) (hc : Bi c (.builtin id) ds d) (hd : (f == ("__debug__" : Str)) = false) : Ev c (.Call (.Name f p) args [] pos) d := by
  refine ⟨?_⟩
  intro s Q E sv h
  obtain ⟨mg, hg, hm⟩ := sv.gl.g
  obtain ⟨mb, hgb, hmb⟩ := sv.gl.b
  refine wpAny_Call_Name_kw (Calls.Name_function_global ok.fn hk (Calls.loadGlobal_builtin (by rw [ok.gg]; exact hg) (hm _ _ hf) (by rw [ok.bb]; exact hgb) ((hmb f hn).trans hv) ?_) hd)
  have hany : (backTo pos (starEach args c.env)).any (·.1) = false := by
    rw [List.any_eq_false]
    intro x hx
    unfold backTo at hx
    obtain ⟨y, hy, rfl⟩ := List.mem_map.mp hx
    have := List.all_eq_true.mp hb y hy
    simpa using this
  refine Calls.callWith_builtin hany (evalArgs_of _ ha hb pos s _ _ sv fun vs h' tk x ps => ?_)
  exact hc.run _ vs Q E (sv.ext x) ps fun v h'' tk' x' q => h v h'' tk' (x.trans x') q
/-- a built-in class, called by its name -/
theorem Ev.callT {f : Str} {p pos : Pos} {args : List Expr} {T : String} {ds : List D} {d : D} (ok : EnvOk c.env) (hf : nsIn c.K mainGlobals f = some none) (hv : bootBuiltins f = some (.type T)) (hn : f ≠ Str.ofString "__name__") (hk : c.env.kindOf f = some .globalImplicit)
    (ha : Evs c args ds) (hb : (starEach args c.env).all (fun x => !x.1) = true) (hc : Bi c (.type T) ds d) (hd : (f == ("__debug__" : Str)) = false) : Ev c (.Call (.Name f p) args [] pos) d := by
  refine ⟨?_⟩
  intro s Q E sv h
  obtain ⟨mg, hg, hm⟩ := sv.gl.g
  obtain ⟨mb, hgb, hmb⟩ := sv.gl.b
  refine wpAny_Call_Name_kw (Calls.Name_function_global ok.fn hk (Calls.loadGlobal_builtin (by rw [ok.gg]; exact hg) (hm _ _ hf) (by rw [ok.bb]; exact hgb) ((hmb f hn).trans hv) ?_) hd)
  have hany : (backTo pos (starEach args c.env)).any (·.1) = false := by
    rw [List.any_eq_false]
    intro x hx
    unfold backTo at hx
    obtain ⟨y, hy, rfl⟩ := List.mem_map.mp hx
    have := List.all_eq_true.mp hb y hy
    simpa using this
  refine PyProof.Rows.callWith_type hany (evalArgs_of _ ha hb pos s _ _ sv fun vs h' tk x ps => ?_)
  exact hc.run _ vs Q E (sv.ext x) ps fun v h'' tk' x' q => h v h'' tk' (x.trans x') q
/-- the value of a built-in's name -/
theorem Ev.nameT {f : Str} {p : Pos} {T : String} (ok : EnvOk c.env) (hf : nsIn c.K mainGlobals f = some none) (hv : bootBuiltins f = some (.type T)) (hn : f ≠ Str.ofString "__name__") (hk : c.env.kindOf f = some .globalImplicit) (hd : (f == ("__debug__" : Str)) = false) : Ev c (.Name f p) (.typ T) := by
  refine ⟨?_⟩
  intro s Q E sv h
  obtain ⟨mg, hg, hm⟩ := sv.gl.g
  obtain ⟨mb, hgb, hmb⟩ := sv.gl.b
  exact Calls.Name_function_global ok.fn hk (Calls.loadGlobal_builtin (by rw [ok.gg]; exact hg) (hm _ _ hf) (by rw [ok.bb]; exact hgb) ((hmb f hn).trans hv) (h _ s.heap s.toks (Ext.refl _) (.typ _))) hd

/-- a method of a value -/
structure Meth (c : Cx) (name : Str) (id : String) (pl : Sem Bool) (d : D) : Prop where
  run :  ∀ (s : Shared) (v : Value) (Q : Value × List Value → Shared → Prop) (E : Value → Shared → Prop), Rep (hide c.mu s.heap) v d → Q (.builtin id, [v]) s → wpAny c.M c.A (getMethod v name pl) Q E s
theorem Ev.meth {o : Expr} {name : Str} {id : String} {apos pos : Pos} {args : List Expr} {pl : Sem Bool} {d0 d : D} {ds : List D} (ho : Ev c o d0) (ha : Evs c args ds) (hb : (starEach args c.env).all (fun x => !x.1) = true)
    (hm : Meth c name id pl d0) (hc : Bi c (.builtin id) (d0 :: ds) d)
    (he : eval (.Call (.Attribute o name apos) args [] pos) c.env = (do
      let ov ← eval o c.env
      standAt apos.atName
      let (f, first) ← holding [ov] (getMethod ov name pl)
      callWith pos f first (backTo pos (starEach args c.env)) [])) : Ev c (.Call (.Attribute o name apos) args [] pos) d := by
  refine ⟨?_⟩
  intro s Q E sv h
  refine MethodCall_ (pl := pl) (ho.run s _ _ sv fun ov h' tk x p => hm.run _ _ _ _ p ?_) he
  have hany : (backTo pos (starEach args c.env)).any (·.1) = false := by
    rw [List.any_eq_false]
    intro x hx
    unfold backTo at hx
    obtain ⟨y, hy, rfl⟩ := List.mem_map.mp hx
    have := List.all_eq_true.mp hb y hy
    simpa using this
  refine Calls.callWith_builtin hany (evalArgs_of _ ha hb pos _ _ _ (sv.ext x) fun vs h'' tk' x' ps => ?_)
  exact hc.run _ _ Q E ((sv.ext x).ext x') (.cons (p.mono (hide_ext x')) ps) fun v h₃ tk₃ x₃ q => h v h₃ tk₃ ((x.trans x').trans x₃) q
end
end Mine
end PdBPart
section PdCPart
open PySem PySem.W PyProof.Rows
namespace Mine
section
variable {c : Cx}
theorem sz (n : Nat) (h : n ≤ 100000) : n ≤ sizeLine := by unfold sizeLine; omega
theorem short (n : Nat) (h : n ≤ 100000) : Builtin.Str.tooLong n = false := by unfold Builtin.Str.tooLong sizeLine; exact decide_eq_false (by omega)

theorem BinR.addS {x y : Str} (h : x.length + y.length ≤ 100000) : BinR c .Add (.str x) (.str y) (.str (x ++ y)) := by
  refine ⟨?_⟩
  intro s a b Q E sv pa pb k
  obtain ⟨t, rfl⟩ := pa.strE; obtain ⟨u, rfl⟩ := pb.strE
  exact SB.add (fun t' k' => k _ _ _ (Ext.refl _) (.str _ _)) (sz _ h)
theorem BinR.mulS {x : Str} {n : Int} (hx : x.length ≤ 100) (h0 : 0 ≤ n) (hn : n ≤ 100) : BinR c .Mult (.str x) (.int n) (.str (Txt.mul x n)) := by
  refine ⟨?_⟩
  intro s a b Q E sv pa pb k
  obtain ⟨t, rfl⟩ := pa.strE; obtain ⟨u, rfl⟩ := pb.intE
  refine SB.mul ⟨?_, ?_, ?_⟩ (fun t' k' => k _ _ _ (Ext.refl _) (.str _ _))
  · have h1 : ¬ n < -(2 ^ 63 : Int) := by omega
    have h2 : ¬ n ≥ 2 ^ 63 := by omega
    rw [decide_eq_false h1, decide_eq_false h2]; rfl
  · intro h1 _ h2
    have : (100 : Int) ≤ (2 ^ 63 - 1) / n := by
      rw [Int.le_ediv_iff_mul_le (by omega)]; omega
    omega
  · intro _ _
    refine short _ ?_
    have : x.length * n.toNat ≤ 100 * 100 := Nat.mul_le_mul hx (by omega)
    omega
theorem BinR.modI {a b : Int} (hb : b ≠ 0) : BinR c .Mod (.int a) (.int b) (.int (a.fmod b)) := by
  refine ⟨?_⟩
  intro s x y Q E sv pa pb k
  obtain ⟨t, rfl⟩ := pa.intE; obtain ⟨u, rfl⟩ := pb.intE
  exact PyProof.Rows.mod_int hb (k _ _ _ (Ext.refl _) (.int _ _))
theorem BinR.divI {a b : Int} (hb : b ≠ 0) (h : Builtin.divisionGoesByPylong a b = false) : BinR c .FloorDiv (.int a) (.int b) (.int (a.fdiv b)) := by
  refine ⟨?_⟩
  intro s x y Q E sv pa pb k
  obtain ⟨t, rfl⟩ := pa.intE; obtain ⟨u, rfl⟩ := pb.intE
  exact PyProof.Rows.floordiv_int hb (k _ _ _ (Ext.refl _) (.int _ _)) (.inl h)
theorem BinR.subI {a b : Int} : BinR c .Sub (.int a) (.int b) (.int (a - b)) := by
  refine ⟨?_⟩
  intro s x y Q E sv pa pb k
  obtain ⟨t, rfl⟩ := pa.intE; obtain ⟨u, rfl⟩ := pb.intE
  exact P.sub_int (k _ _ _ (Ext.refl _) (.int _ _))
theorem BinR.addI {a b : Int} : BinR c .Add (.int a) (.int b) (.int (a + b)) := by
  refine ⟨?_⟩
  intro s x y Q E sv pa pb k
  obtain ⟨t, rfl⟩ := pa.intE; obtain ⟨u, rfl⟩ := pb.intE
  exact wpAny_add_int (k _ _ _ (Ext.refl _) (.int _ _))
theorem CmpR.eqS {x y : Str} : CmpR c .Eq (.str x) (.str y) (x.cps.toList == y.cps.toList) := by
  refine ⟨?_⟩
  intro s a b Q E sv pa pb k
  obtain ⟨t, rfl⟩ := pa.strE; obtain ⟨u, rfl⟩ := pb.strE
  exact P.eq_str (k _ s.toks (Ext.refl _))
theorem CmpR.neS {x y : Str} : CmpR c .NotEq (.str x) (.str y) (x.cps.toList != y.cps.toList) := by
  refine ⟨?_⟩
  intro s a b Q E sv pa pb k
  obtain ⟨t, rfl⟩ := pa.strE; obtain ⟨u, rfl⟩ := pb.strE
  exact P.ne_str (k _ s.toks (Ext.refl _))
theorem CmpR.ltI {a b : Int} : CmpR c .Lt (.int a) (.int b) (decide (a < b)) := by
  refine ⟨?_⟩
  intro s x y Q E sv pa pb k
  obtain ⟨t, rfl⟩ := pa.intE; obtain ⟨u, rfl⟩ := pb.intE
  exact P.lt_int (k _ s.toks (Ext.refl _))
theorem CmpR.leI {a b : Int} : CmpR c .LtE (.int a) (.int b) (decide (a ≤ b)) := by
  refine ⟨?_⟩
  intro s x y Q E sv pa pb k
  obtain ⟨t, rfl⟩ := pa.intE; obtain ⟨u, rfl⟩ := pb.intE
  exact P.le_int (k _ s.toks (Ext.refl _))
theorem CmpR.gtI {a b : Int} : CmpR c .Gt (.int a) (.int b) (decide (a > b)) := by
  refine ⟨?_⟩
  intro s x y Q E sv pa pb k
  obtain ⟨t, rfl⟩ := pa.intE; obtain ⟨u, rfl⟩ := pb.intE
  exact P.gt_int (k _ s.toks (Ext.refl _))
theorem CmpR.geI {a b : Int} : CmpR c .GtE (.int a) (.int b) (decide (a ≥ b)) := by
  refine ⟨?_⟩
  intro s x y Q E sv pa pb k
  obtain ⟨t, rfl⟩ := pa.intE; obtain ⟨u, rfl⟩ := pb.intE
  exact P.ge_int (k _ s.toks (Ext.refl _))

/-! methods of a text -/
theorem Meth.lower {pl : Sem Bool} {x : Str} : Meth c (Str.ofString "lower") "str.lower" pl (.str x) := by
  refine ⟨?_⟩
  intro s v Q E p h; obtain ⟨t, rfl⟩ := p.strE; with_reducible exact GM.lower h
theorem Meth.upper {pl : Sem Bool} {x : Str} : Meth c (Str.ofString "upper") "str.upper" pl (.str x) := by
  refine ⟨?_⟩
  intro s v Q E p h; obtain ⟨t, rfl⟩ := p.strE; with_reducible exact GM.upper h
theorem Meth.find {pl : Sem Bool} {x : Str} : Meth c (Str.ofString "find") "str.find" pl (.str x) := by
  refine ⟨?_⟩
  intro s v Q E p h; obtain ⟨t, rfl⟩ := p.strE; with_reducible exact GM.find h
theorem Meth.rfind {pl : Sem Bool} {x : Str} : Meth c (Str.ofString "rfind") "str.rfind" pl (.str x) := by
  refine ⟨?_⟩
  intro s v Q E p h; obtain ⟨t, rfl⟩ := p.strE; with_reducible exact GM.rfind h
theorem Meth.startswith {pl : Sem Bool} {x : Str} : Meth c (Str.ofString "startswith") "str.startswith" pl (.str x) := by
  refine ⟨?_⟩
  intro s v Q E p h; obtain ⟨t, rfl⟩ := p.strE; with_reducible exact GM.startswith h
theorem Meth.endswith {pl : Sem Bool} {x : Str} : Meth c (Str.ofString "endswith") "str.endswith" pl (.str x) := by
  refine ⟨?_⟩
  intro s v Q E p h; obtain ⟨t, rfl⟩ := p.strE; with_reducible exact GM.endswith h
theorem Meth.rstrip {pl : Sem Bool} {x : Str} : Meth c (Str.ofString "rstrip") "str.rstrip" pl (.str x) := by
  refine ⟨?_⟩
  intro s v Q E p h; obtain ⟨t, rfl⟩ := p.strE; with_reducible exact GM.rstrip h
theorem Meth.split {pl : Sem Bool} {x : Str} : Meth c (Str.ofString "split") "str.split" pl (.str x) := by
  refine ⟨?_⟩
  intro s v Q E p h; obtain ⟨t, rfl⟩ := p.strE; with_reducible exact GM.split h
theorem Meth.join {pl : Sem Bool} {x : Str} : Meth c (Str.ofString "join") "str.join" pl (.str x) := by
  refine ⟨?_⟩
  intro s v Q E p h; obtain ⟨t, rfl⟩ := p.strE; with_reducible exact GM.join h

theorem Reps.two {P : PH} {vs : List Value} {d1 d2 : D} (r : Reps P vs [d1, d2]) : ∃ a b, vs = [a, b] ∧ Rep P a d1 ∧ Rep P b d2 := by
  cases r with | cons p r => cases r with | cons q r => cases r; exact ⟨_, _, rfl, p, q⟩
theorem Reps.one {P : PH} {vs : List Value} {d1 : D} (r : Reps P vs [d1]) : ∃ a, vs = [a] ∧ Rep P a d1 := by
  cases r with | cons p r => cases r; exact ⟨_, rfl, p⟩

theorem Bi.lower {x : Str} (h : (Txt.lower x).length ≤ 100000) : Bi c (.builtin "str.lower") [.str x] (.str (Txt.lower x)) := by
  refine ⟨?_⟩
  intro s vs Q E sv r k; obtain ⟨v, rfl, p⟩ := r.one; obtain ⟨t, rfl⟩ := p.strE
  exact SC.lower (short _ h) (k _ _ _ (Ext.refl _) (.str _ _))
theorem Bi.upper {x : Str} (h : (Txt.upper x).length ≤ 100000) : Bi c (.builtin "str.upper") [.str x] (.str (Txt.upper x)) := by
  refine ⟨?_⟩
  intro s vs Q E sv r k; obtain ⟨v, rfl, p⟩ := r.one; obtain ⟨t, rfl⟩ := p.strE
  exact SC.upper (short _ h) (k _ _ _ (Ext.refl _) (.str _ _))
theorem Bi.find {x y : Str} : Bi c (.builtin "str.find") [.str x, .str y] (.int (Txt.find x y)) := by
  refine ⟨?_⟩
  intro s vs Q E sv r k; obtain ⟨v, v', rfl, p, q⟩ := r.two; obtain ⟨t, rfl⟩ := p.strE; obtain ⟨u, rfl⟩ := q.strE
  exact SC.find (k _ _ _ (Ext.refl _) (.int _ _))
theorem Bi.rfind {x y : Str} : Bi c (.builtin "str.rfind") [.str x, .str y] (.int (Txt.rfind x y)) := by
  refine ⟨?_⟩
  intro s vs Q E sv r k; obtain ⟨v, v', rfl, p, q⟩ := r.two; obtain ⟨t, rfl⟩ := p.strE; obtain ⟨u, rfl⟩ := q.strE
  exact SC.rfind (k _ _ _ (Ext.refl _) (.int _ _))
theorem Bi.startswith {x y : Str} : Bi c (.builtin "str.startswith") [.str x, .str y] (.bool (Txt.startswith x y)) := by
  refine ⟨?_⟩
  intro s vs Q E sv r k; obtain ⟨v, v', rfl, p, q⟩ := r.two; obtain ⟨t, rfl⟩ := p.strE; obtain ⟨u, rfl⟩ := q.strE
  exact SC.startswith (k _ _ s.toks (Ext.refl _) (.bool _))
theorem Bi.endswith {x y : Str} : Bi c (.builtin "str.endswith") [.str x, .str y] (.bool (Txt.endswith x y)) := by
  refine ⟨?_⟩
  intro s vs Q E sv r k; obtain ⟨v, v', rfl, p, q⟩ := r.two; obtain ⟨t, rfl⟩ := p.strE; obtain ⟨u, rfl⟩ := q.strE
  exact SC.endswith (k _ _ s.toks (Ext.refl _) (.bool _))
theorem Bi.rstrip {x y : Str} (h : x.length ≤ 100000) : Bi c (.builtin "str.rstrip") [.str x, .str y] (.str (Txt.rstripChars x y)) := by
  refine ⟨?_⟩
  intro s vs Q E sv r k; obtain ⟨v, v', rfl, p, q⟩ := r.two; obtain ⟨t, rfl⟩ := p.strE; obtain ⟨u, rfl⟩ := q.strE
  exact SC.rstripChars (fun t' k' => k _ _ _ (Ext.refl _) (.str _ _)) (sz _ h)

theorem reps_strs {P : PH} : ∀ (l : List (Str × Tok)), Reps P (strValues l) ((l.map (·.1)).map D.str)
  | [] => .nil
  | (x, t) :: r => .cons (.str x t) (reps_strs r)
theorem strs_reps {P : PH} : ∀ {vs : List Value} {xs : List Str}, Reps P vs (xs.map D.str) → ∃ l, vs = strValues l ∧ l.map (·.1) = xs
  | _, [], .nil => ⟨[], rfl, rfl⟩
  | _, x :: xs, .cons p r => by
    obtain ⟨t, rfl⟩ := p.strE
    obtain ⟨l, rfl, rfl⟩ := strs_reps r
    exact ⟨(x, t) :: l, rfl, rfl⟩

theorem Bi.split {x y : Str} (hx : x.length ≤ 10000) (hy : (y.length == 0) = false) (hs : (Builtin.Str.partsBetween x (Builtin.Str.occurrences x y 0 x.length (x.length + 1)) y.length).length ≤ 100000) :
    Bi c (.builtin "str.split") [.str x, .str y] (.list ((Txt.split x y).map D.str)) := by
  refine ⟨?_⟩
  intro s vs Q E sv r k; obtain ⟨v, v', rfl, p, q⟩ := r.two; obtain ⟨t, rfl⟩ := p.strE; obtain ⟨u, rfl⟩ := q.strE
  have fin : ∀ (l : List (Str × Tok)) (k' : Nat), l.map (·.1) = Txt.split x y → Q (.ref s.heap.objs.size) { s with heap := s.heap.push (lObj (strValues l).toArray 0), toks := k' } := by
    intro l k' hl
    refine k _ _ _ (Ext.push _ _) (Rep.ofList (vs := (strValues l).toArray) (sv.fresh (Nat.le_refl _)) ⟨_, Heap.get?_push_size _ rfl, rfl, _, rfl⟩ ?_)
    rw [← hl]
    exact reps_strs l
  cases h1 : (decide (x.length < y.length) || decide (Builtin.Str.strKind x < Builtin.Str.strKind y))
  · cases hf : (Builtin.Str.occurrences x y 0 x.length (x.length + 1)).isEmpty
    · refine call_meets F.slot_str_split (typeIs_str _ _ _) F.entry_str_split (F.args_str_split_2 _ _) (meets_str_split_sep x y t u h1 hy hf (sz _ (by omega)) (sz _ hs)) ?_
      show wants Q E _ { s with toks := _, heap := s.heap.push { cls := .type "list", data := .seq (strsFrom s.toks (Builtin.Str.partsBetween x (Builtin.Str.occurrences x y 0 x.length (x.length + 1)) y.length)).toArray } }
      rw [strsFrom_eq]
      exact fin (numbered s.toks _) _ ((numbered_texts _ _).trans ((if_neg (ne_true_of_eq_false h1)).trans (if_neg (ne_true_of_eq_false hf))).symm)
    · exact call_meets F.slot_str_split (typeIs_str _ _ _) F.entry_str_split (F.args_str_split_2 _ _) (meets_str_split_not_found x y t u h1 hy hf)
        (fin [(x, t)] _ ((if_neg (ne_true_of_eq_false h1)).trans (if_pos hf)).symm)
  · exact call_meets F.slot_str_split (typeIs_str _ _ _) F.entry_str_split (F.args_str_split_2 _ _) (meets_str_split_cannot_occur x y t u h1)
        (fin [(x, t)] _ (if_pos h1).symm)
theorem Bi.join {x : Str} {xs : List Str} (h : JoinOk x xs = true) : Bi c (.builtin "str.join") [.str x, .list (xs.map D.str)] (.str (Txt.join x xs)) := by
  refine ⟨?_⟩
  intro s vs Q E sv r k; obtain ⟨v, v', rfl, p, q⟩ := r.two; obtain ⟨t, rfl⟩ := p.strE
  obtain ⟨a, ws, rfl, ha, hl, rs⟩ := q.listE
  obtain ⟨l, hws, hl'⟩ := strs_reps rs
  have e : ws = (strValues l).toArray := by rw [← hws]
  subst e
  exact SC.join hl hl' h (fun t' k' => k _ _ _ (Ext.refl _) (.str _ _))
end
end Mine
end PdCPart
section PdDPart
open PySem PySem.W PyProof.Rows
namespace Mine

theorem wpAny_Sub {M : Model} {A : Around} {E : Value → Shared → Prop} {s : Shared} {env : Env} {prog : Program} {w : World} (hM : M = model prog w) {value slice : Expr} {pos : Pos} {T id : String} {Q : Value → Shared → Prop}
    (hl : typeLookup (.type T) "__getitem__" = pure (some (.builtin id)))
    (h : wpAny M A (eval value env) (fun o s₁ => wpAny M A (eval slice env) (fun i s₂ => s₂.TypeIs o T ∧ wpAny M A (getItem o i) Q E s₂) E s₁) E s) :
    wpAny M A (eval (.Subscript value slice pos) env) Q E s := by
  subst hM
  rw [eval_Subscript]
  refine wpAny_bind (wpAny_mono h (fun o s₁ h₁ => wpAny_bind (wpAny_holding (wpAny_mono h₁ (fun i s₂ h₂ => wpAny_bind (wpAny_standAt ?_)) fun _ _ x => x))) fun _ _ x => x)
  have fin : wpAny (model prog w) A (subscripted slice false o i) (fun r s₃ => wpAny (model prog w) A (letTemporaryGo value o r >>= fun _ => pure r) Q E s₃) E s₂ := by
    have e : ∃ l, subscripted slice false o i = operate l (getItem o i) := by
      unfold subscripted
      split
      · exact ⟨_, rfl⟩
      · exact absurd (by assumption) Bool.false_ne_true
      · exact ⟨_, rfl⟩
    obtain ⟨l, e⟩ := e
    rw [e]
    exact wpAny_operating (wpAny_mono h₂.2 (fun r s₃ h₃ => wpAny_bind (wpAny_letTemporaryGo (wpAny_pure h₃))) fun _ _ x => x)
  refine wpAny_bind ?_
  rw [getitemInPython_of_ne h₂.1.not_modules]
  refine wpAny_bind (wpAny_specialOf h₂.1 hl ?_)
  first
    | exact wpAny_pure (wpAny_bind fin)
    | exact wpAny_bind (wpAny_pure (wpAny_bind fin))
    | exact wpAny_bind fin

/-- the indices that a slice picks, on data -/
def pickD {α : Type} (ds : List α) (lo hi st : Option Int) : List α :=
  (sliceRange (sliceBounds lo hi st ds.length).1 (sliceBounds lo hi st ds.length).2.1 (sliceBounds lo hi st ds.length).2.2).filterMap (ds[·]?)

theorem Reps.picks {P : PH} {vs : List Value} {ds : List D} (r : Reps P vs ds) : ∀ I : List Nat, Reps P (I.filterMap (vs[·]?)) (I.filterMap (ds[·]?))
  | [] => .nil
  | i :: I => by
    have ih := Reps.picks r I
    cases hd : ds[i]? with
    | some d =>
      obtain ⟨v, hv, p⟩ := r.get hd
      rw [List.filterMap_cons_some (by exact hv), List.filterMap_cons_some (by exact hd)]
      exact .cons p ih
    | none =>
      have : vs[i]? = none := by
        have := r.length
        rw [List.getElem?_eq_none_iff] at hd ⊢
        omega
      rw [List.filterMap_cons_none (by exact this), List.filterMap_cons_none (by exact hd)]
      exact ih

section
variable {c : Cx}
theorem Ev.itemL {v i : Expr} {pos : Pos} {ds : List D} {k : Int} {d : D} (hv : Ev c v (.list ds)) (hi : Ev c i (.int k)) (h0 : 0 ≤ k) (hk : ds[k.toNat]? = some d) (hn : ds.length ≤ 100000) : Ev c (.Subscript v i pos) d := by
  refine ⟨?_⟩
  intro s Q E sv h
  refine wpAny_Sub rfl slot_list_getitem.lookup (hv.run s _ _ sv fun a h' tk x p => hi.run _ _ _ (sv.ext x) fun b h'' tk' x' p' => ?_)
  obtain ⟨a, vs, rfl, ha, hl, rs⟩ := (p.mono (hide_ext x')).listE
  obtain ⟨t, rfl⟩ := p'.intE
  obtain ⟨y, hy, py⟩ := rs.get hk
  refine ⟨hl.typeIs, wpAny_getItem_list hl h0 ?_ (by simpa using hy) (h _ _ _ (x.trans x') py)⟩
  have := (List.getElem?_eq_some_iff.mp hk).1
  omega
theorem Ev.itemS {v i : Expr} {pos : Pos} {z : Str} {k : Int} (hv : Ev c v (.str z)) (hi : Ev c i (.int k)) (hk : (Txt.charAt z k).isSome = true) (hr : fitsSsize k = true) : Ev c (.Subscript v i pos) (.str (Txt.item z k)) := by
  refine ⟨?_⟩
  intro s Q E sv h
  refine wpAny_Sub rfl F.slot_str_getitem.lookup (hv.run s _ _ sv fun a h' tk x p => hi.run _ _ _ (sv.ext x) fun b h'' tk' x' p' => ?_)
  obtain ⟨t, rfl⟩ := p.strE; obtain ⟨u, rfl⟩ := p'.intE
  exact ⟨typeIs_str _ _ _, SB.getItem hr hk (h _ _ _ (x.trans x') (.str _ _))⟩

/-- a slice's part -/
def slS (z : Str) (lo hi : Option Int) : Str :=
  if ((Builtin.Str.strSliceIndices lo hi 1 z.length).length == z.length) = true then z else ⟨((Builtin.Str.strSliceIndices lo hi 1 z.length).filterMap (z.cps[·]?)).toArray⟩
structure Part (c : Cx) (e : Option Expr) (k : Option Int) : Prop where
  run :  ∀ (s : Shared) (Q : Value → Shared → Prop) (E : Value → Shared → Prop), Sv c s.heap →
    (∀ (p : Option (Int × Tok)) h' tk, Ext s.heap h' → p.map (·.1) = k → Q (partValue p) { s with heap := h', toks := tk }) → wpAny c.M c.A (evalPart e c.env) Q E s
theorem Part.none : Part c none none := ⟨fun s _ _ _ h => wpAny_pure (h Option.none s.heap s.toks (Ext.refl _) rfl)⟩
theorem Part.some {e : Expr} {k : Int} (he : Ev c e (.int k)) : Part c (some e) (some k) := ⟨fun s Q E sv h =>
  he.run s Q E sv fun v h' tk x p => by
    obtain ⟨t, rfl⟩ := p.intE
    exact h (Option.some (k, t)) h' tk x rfl⟩

theorem isPart_of (p : Option (Int × Tok)) : IsPart (partValue p) (p.map (·.1)) := by
  cases p with
  | none => exact .none
  | some q => exact .int _ _

theorem Ev.sliceL {v : Expr} {l u st : Option Expr} {p pos : Pos} {ds : List D} {lo hi sp : Option Int} (hv : Ev c v (.list ds)) (hl : Part c l lo) (hu : Part c u hi) (hs : Part c st sp) (h0 : sp ≠ some 0) (hn : ds.length ≤ 100000) :
    Ev c (.Subscript v (.Slice l u st p) pos) (.list (pickD ds lo hi sp)) := by
  refine ⟨?_⟩
  intro s Q E sv h
  refine wpAny_Sub rfl slot_list_getitem.lookup (hv.run s _ _ sv fun a h' tk x p => ?_)
  refine wpAny_Slice (hl.run _ _ _ (sv.ext x) fun p1 h1 t1 x1 e1 => hu.run _ _ _ ((sv.ext x).ext x1) fun p2 h2 t2 x2 e2 => hs.run _ _ _ (((sv.ext x).ext x1).ext x2) fun p3 h3 t3 x3 e3 => ?_)
  have x5 : Ext h' (h3.push { cls := .type "slice", data := .fields #[partValue p1, partValue p2, partValue p3] }) := ((x1.trans x2).trans x3).trans (Ext.push _ _)
  obtain ⟨a, vs, rfl, ha, hL, rs⟩ := (p.mono (hide_ext x5)).listE
  have hsz : vs.size = ds.length := by simpa using rs.length
  refine ⟨hL.typeIs, wpAny_getItem_list_slice (lo := lo) (hi := hi) (st := sp) hL (Heap.IsSliceOf.new _ _ _ _) (e1 ▸ isPart_of p1) (e2 ▸ isPart_of p2) (e3 ▸ isPart_of p3) h0 ?_ (sz _ (by omega))⟩
  refine h _ _ t3 ((x.trans x5).trans (Ext.push _ _)) (Rep.ofList (vs := slicePick vs lo hi sp) ?_ ⟨_, Heap.get?_push_size _ rfl, rfl, _, rfl⟩ ?_)
  · exact ((sv.ext x).ext x5).fresh (Nat.le_refl _)
  · have := (rs.mono (hide_ext (Ext.push _ (lObj (slicePick vs lo hi sp) 0)))).picks (sliceRange (sliceBounds lo hi sp ds.length).1 (sliceBounds lo hi sp ds.length).2.1 (sliceBounds lo hi sp ds.length).2.2)
    have e : (slicePick vs lo hi sp).toList = (sliceRange (sliceBounds lo hi sp ds.length).1 (sliceBounds lo hi sp ds.length).2.1 (sliceBounds lo hi sp ds.length).2.2).filterMap (vs.toList[·]?) := by
      unfold slicePick; rw [hsz]; simp
    rw [e]
    exact this

theorem Ev.sliceS {v : Expr} {l u : Option Expr} {p pos : Pos} {z : Str} {lo hi : Option Int} (hv : Ev c v (.str z)) (hl : Part c l lo) (hu : Part c u hi) (hn : z.length ≤ 100000) :
    Ev c (.Subscript v (.Slice l u none p) pos) (.str (slS z lo hi)) := by
  refine ⟨?_⟩
  intro s Q E sv h
  refine wpAny_Sub rfl F.slot_str_getitem.lookup (hv.run s _ _ sv fun a h' tk x p => ?_)
  refine wpAny_Slice (hl.run _ _ _ (sv.ext x) fun p1 h1 t1 x1 e1 => hu.run _ _ _ ((sv.ext x).ext x1) fun p2 h2 t2 x2 e2 => ?_)
  rw [evalPart_none]
  refine wpAny_pure ?_
  obtain ⟨t, rfl⟩ := p.strE
  refine ⟨typeIs_str _ _ _, wpAny_getItem_str_slice (l := p1) (u := p2) (st := none) ⟨_, Heap.get?_push_size _ rfl, rfl, rfl⟩ rfl ?_⟩
  subst e1; subst e2
  have x5 : Ext s.heap (h2.push { cls := .type "slice", data := .fields #[partValue p1, partValue p2, .none] }) := ((x.trans x1).trans x2).trans (Ext.push _ _)
  unfold sliceMade slicePicked
  simp only [Option.map_none, Option.getD_none, beq_self_eq_true, Bool.true_and]
  have key : ∀ (t : Tok) (tk : Nat), Q (.str (slS z (p1.map (·.1)) (p2.map (·.1))) t) { s with heap := h2.push { cls := .type "slice", data := .fields #[partValue p1, partValue p2, .none] }, toks := tk } := fun t tk => h _ _ tk x5 (.str _ _)
  unfold slS at key
  split
  · rename_i hlen
    rw [if_pos hlen] at key
    exact key _ _
  · rename_i hlen
    rw [if_neg hlen] at key
    refine ⟨?_, key _ _⟩
    refine sz _ ?_
    refine Nat.le_trans ?_ hn
    show (((Builtin.Str.strSliceIndices (p1.map (·.1)) (p2.map (·.1)) 1 z.length).filterMap (z.cps[·]?)).toArray).size ≤ _
    rw [List.size_toArray]
    exact Nat.le_trans (List.length_filterMap_le _ _) (sliceIndices_le _ _ _)
/-- what an item or a slice gives, on data -/
inductive ItemR : D → Int → D → Prop where
  | list {ds : List D} {k : Int} {d : D} (h0 : 0 ≤ k) (hk : ds[k.toNat]? = some d) (hn : ds.length ≤ 100000) : ItemR (.list ds) k d
  | str {z : Str} {k : Int} (hk : (Txt.charAt z k).isSome = true) (hr : fitsSsize k = true) : ItemR (.str z) k (.str (Txt.item z k))
inductive SliceR : D → Option Int → Option Int → Option Int → D → Prop where
  | list {ds : List D} {lo hi sp : Option Int} (h0 : sp ≠ some 0) (hn : ds.length ≤ 100000) : SliceR (.list ds) lo hi sp (.list (pickD ds lo hi sp))
  | str {z : Str} {lo hi : Option Int} (hn : z.length ≤ 100000) : SliceR (.str z) lo hi none (.str (slS z lo hi))
theorem Ev.item {v i : Expr} {pos : Pos} {d0 d : D} {k : Int} (hv : Ev c v d0) (hi : Ev c i (.int k)) (hr : ItemR d0 k d) : Ev c (.Subscript v i pos) d := by
  cases hr with
  | list h0 hk hn => exact Ev.itemL hv hi h0 hk hn
  | str hk hr => exact Ev.itemS hv hi hk hr
theorem Ev.slice2 {v : Expr} {l u : Option Expr} {p pos : Pos} {d0 d : D} {lo hi : Option Int} (hv : Ev c v d0) (hl : Part c l lo) (hu : Part c u hi) (hr : SliceR d0 lo hi none d) : Ev c (.Subscript v (.Slice l u none p) pos) d := by
  cases hr with
  | list h0 hn => exact Ev.sliceL hv hl hu Part.none h0 hn
  | str hn => exact Ev.sliceS hv hl hu hn
theorem Ev.slice3 {v st : Expr} {l u : Option Expr} {p pos : Pos} {ds : List D} {lo hi : Option Int} {sp : Int} (hv : Ev c v (.list ds)) (hl : Part c l lo) (hu : Part c u hi) (hs : Ev c st (.int sp)) (h0 : sp ≠ 0) (hn : ds.length ≤ 100000) : Ev c (.Subscript v (.Slice l u (some st) p) pos) (.list (pickD ds lo hi (some sp))) :=
  Ev.sliceL hv hl hu (Part.some hs) (by simpa using h0) hn
end
end Mine
end PdDPart
section PdTPart
open PySem PySem.W PyProof.Rows PySem.Builtin PySem.Builtin.Str
namespace Mine
/-! plain texts -/
def cl (x : Str) : List Nat := x.cps.toList
def mk (l : List Nat) : Str := ⟨l.toArray⟩
theorem cl_mk (l : List Nat) : cl (mk l) = l := rfl
theorem mk_cl (x : Str) : mk (cl x) = x := by cases x; rfl
theorem cl_inj {x y : Str} (h : cl x = cl y) : x = y := by rw [← mk_cl x, ← mk_cl y, h]
theorem cl_len (x : Str) : (cl x).length = x.length := by simp [cl, Str.length]
theorem mk_len (l : List Nat) : (mk l).length = l.length := by simp [mk, Str.length]
theorem cl_append (x y : Str) : cl (x ++ y) = cl x ++ cl y := by
  simp [cl, Str.cps_append]
def jl (c : Nat) : List (List Nat) → List Nat
  | [] => []
  | [p] => p
  | p :: q :: r => p ++ c :: jl c (q :: r)
theorem cl_join (c : Nat) : ∀ ps : List Str, cl (Str.join (mk [c]) ps) = jl c (ps.map cl)
  | [] => rfl
  | [p] => rfl
  | p :: q :: r => by
    have ih := cl_join c (q :: r)
    show cl (p ++ mk [c] ++ Str.join (mk [c]) (q :: r)) = cl p ++ c :: jl c ((q :: r).map cl)
    rw [cl_append, cl_append, ih, cl_mk]
    simp
theorem txt_join (sep : Str) (ps : List Str) : Txt.join sep ps = Str.join sep ps := StrLaws.glued_eq_join sep ps

theorem cut_inj {c : Nat} {p q r t : List Nat} (hp : c ∉ p) (hq : c ∉ q) (h : p ++ c :: r = q ++ c :: t) : p = q ∧ r = t := by
  induction p generalizing q with
  | nil =>
    cases q with
    | nil => simpa using h
    | cons b q => simp at h; exact absurd (by rw [h.1]; exact List.mem_cons_self) hq
  | cons a p ih =>
    cases q with
    | nil => simp at h; exact absurd (by rw [h.1]; exact List.mem_cons_self) hp
    | cons b q =>
      simp at h
      obtain ⟨rfl, h⟩ := h
      obtain ⟨rfl, rfl⟩ := ih (fun x => hp (List.mem_cons_of_mem _ x)) (fun x => hq (List.mem_cons_of_mem _ x)) h
      exact ⟨rfl, rfl⟩
theorem jl_mem {c : Nat} {p q : List Nat} {r : List (List Nat)} : c ∈ jl c (p :: q :: r) := by
  show c ∈ p ++ c :: _
  simp
theorem jl_inj {c : Nat} : ∀ {ps qs : List (List Nat)}, ps ≠ [] → qs ≠ [] → (∀ p ∈ ps, c ∉ p) → (∀ p ∈ qs, c ∉ p) → jl c ps = jl c qs → ps = qs
  | [], _, h, _, _, _, _ => absurd rfl h
  | _, [], _, h, _, _, _ => absurd rfl h
  | [p], [q], _, _, _, _, e => by have e' : p = q := e; rw [e']
  | [p], q :: q' :: r, _, _, hp, _, e => by
    have e' : p = jl c (q :: q' :: r) := e
    exact absurd (e' ▸ jl_mem) (hp p (.head _))
  | p :: p' :: r, [q], _, _, _, hq, e => by
    have e' : jl c (p :: p' :: r) = q := e
    exact absurd (e' ▸ jl_mem) (hq q (.head _))
  | p :: p' :: r, q :: q' :: t, _, _, hp, hq, e => by
    have e' : p ++ c :: jl c (p' :: r) = q ++ c :: jl c (q' :: t) := e
    obtain ⟨rfl, e2⟩ := cut_inj (hp _ (.head _)) (hq _ (.head _)) e'
    have := jl_inj (ps := p' :: r) (qs := q' :: t) (by simp) (by simp) (fun x hx => hp x (.tail _ hx)) (fun x hx => hq x (.tail _ hx)) e2
    rw [this]

theorem split_ne (x : Str) (c : Nat) : Txt.split x (mk [c]) ≠ [] := by
  unfold Txt.split
  split
  · simp
  · split
    · simp
    · rw [StrLaws.partsBetween_eq]
      obtain ⟨p, r, e⟩ := StrLaws.partsFrom_ne x (mk [c]).length 0 (occurrences x (mk [c]) 0 x.length (x.length + 1))
      rw [e]; simp
theorem map_cl_inj : ∀ {ps qs : List Str}, ps.map cl = qs.map cl → ps = qs
  | [], [], _ => rfl
  | [], _ :: _, h => by simp at h
  | _ :: _, [], h => by simp at h
  | p :: ps, q :: qs, h => by
    simp at h
    rw [cl_inj h.1, map_cl_inj h.2]
/-- splitting what was joined -/
theorem split_join (c : Nat) {ps : List Str} (hn : ps ≠ []) (hc : ∀ p ∈ ps, c ∉ cl p) : Txt.split (Str.join (mk [c]) ps) (mk [c]) = ps := by
  apply map_cl_inj
  refine jl_inj (c := c) ?_ (by simpa using hn) ?_ ?_ ?_
  · simpa using split_ne _ c
  · intro p hp
    obtain ⟨q, hq, rfl⟩ := List.mem_map.mp hp
    exact StrLaws.split_free _ c q hq
  · intro p hp
    obtain ⟨q, hq, rfl⟩ := List.mem_map.mp hp
    exact hc q hq
  · rw [← cl_join, ← cl_join]
    exact congrArg cl (StrLaws.join_split _ _)

/-- find, of one sign -/
theorem at_iff (x : Str) (c i : Nat) : StrLaws.At x (mk [c]) x.length i ↔ (cl x)[i]? = some c := StrLaws.subAt_one x c i
theorem find_none {x : Str} {c : Nat} (h : c ∉ cl x) : Txt.find x (mk [c]) = -1 := by
  unfold Txt.find
  rcases StrLaws.occ_head x (mk [c]) 1 (Nat.le_refl _) with ⟨e, _⟩ | ⟨i, r, e, ha, _⟩
  · rw [e]
  · exact absurd (List.mem_of_getElem? ((at_iff x c i).mp ha)) h
theorem find_some {x : Str} {c : Nat} {p r : List Nat} (hx : cl x = p ++ c :: r) (h : c ∉ p) : Txt.find x (mk [c]) = p.length := by
  have hp : (cl x)[p.length]? = some c := by rw [hx]; simp
  unfold Txt.find
  rcases StrLaws.occ_head x (mk [c]) 1 (Nat.le_refl _) with ⟨e, hn⟩ | ⟨i, r', e, ha, hk⟩
  · exact absurd ((at_iff x c _).mpr hp) (hn _)
  · rw [e]
    have h1 : ¬ p.length < i := fun q => hk _ q ((at_iff x c _).mpr hp)
    have h2 : ¬ i < p.length := fun q => by
      have := (at_iff x c i).mp ha
      rw [hx, List.getElem?_append_left q] at this
      exact h (List.mem_of_getElem? this)
    have : i = p.length := by omega
    simp [this]
theorem rfind_some {x : Str} {c : Nat} {p r : List Nat} (hx : cl x = p ++ c :: r) (h : c ∉ r) : Txt.rfind x (mk [c]) = p.length := by
  have hp : (cl x)[p.length]? = some c := by rw [hx]; simp
  unfold Txt.rfind
  rcases StrLaws.last_spec x (mk [c]) with ⟨e, hn⟩ | ⟨i, e, ha, hk⟩
  · exact absurd ((at_iff x c _).mpr hp) (hn _)
  · rw [e]
    have h1 : ¬ i < p.length := fun q => hk _ q ((at_iff x c _).mpr hp)
    have h2 : ¬ p.length < i := fun q => by
      have := (at_iff x c i).mp ha
      rw [hx, List.getElem?_append_right (by omega)] at this
      have e2 : i - p.length = (i - p.length - 1) + 1 := by omega
      rw [e2, List.getElem?_cons_succ] at this
      exact h (List.mem_of_getElem? this)
    have : i = p.length := by omega
    simp [this]
/-- slices -/
theorem slS_from {x : Str} {k : Nat} (h : k ≤ x.length) : slS x (some (k : Int)) none = mk ((cl x).drop k) := by
  have e : strSliceIndices (some (k : Int)) none 1 x.length = (List.range (x.length - k)).map (fun i => k + i) := by
    rw [StrLaws.sliceIdx_none_hi, StrLaws.strSliceIndices_plain h (Nat.le_refl _)]
  have hl : x.cps.toList.length = x.length := by simp [Str.length]
  have e2 : ((List.range (x.length - k)).map (fun i => k + i)).filterMap (x.cps[·]?) = (cl x).drop k := by
    have := StrLaws.picks x.cps.toList (x.length - k) k (by omega)
    rw [← List.take_of_length_le (l := (cl x).drop k) (i := x.length - k) (by rw [List.length_drop, cl_len]; omega)]
    simpa [cl] using this
  unfold slS
  rw [e, e2]
  split
  · rename_i h2
    have : k = 0 := by simp at h2; omega
    subst this
    rw [List.drop_zero, mk_cl]
  · rfl
theorem slS_to {x : Str} {k : Nat} (h : k ≤ x.length) : slS x none (some (k : Int)) = mk ((cl x).take k) := by
  have e : strSliceIndices none (some (k : Int)) 1 x.length = (List.range (k - 0)).map (fun i => 0 + i) := by
    rw [StrLaws.sliceIdx_none_lo]
    exact StrLaws.strSliceIndices_plain (a := 0) (b := k) (Nat.zero_le _) h
  have hl : x.cps.toList.length = x.length := by simp [Str.length]
  have e2 : ((List.range (k - 0)).map (fun i => 0 + i)).filterMap (x.cps[·]?) = (cl x).take k := by
    have := StrLaws.picks x.cps.toList (k - 0) 0 (by omega)
    simpa [cl] using this
  unfold slS
  rw [e, e2]
  split
  · rename_i h2
    have : k = x.length := by simpa using h2
    rw [List.take_of_length_le (by rw [cl_len]; omega), mk_cl]
  · rfl
theorem pick_l {α : Type} (ds : List α) (a k : Nat) : ((List.range k).map (a + ·)).filterMap (ds[·]?) = (ds.drop a).take k := by
  have := pick_run ds.toArray a k
  simpa using this
theorem pickD_to {α : Type} (ds : List α) (k : Nat) : pickD ds none (some (k : Int)) none = ds.take k := by
  have e1 : sliceBounds none (some (k : Int)) none ds.length = (((0 : Nat) : Int), ((min k ds.length : Nat) : Int), 1) := by
    unfold sliceBounds
    have h1 : ¬ (k : Int) < 0 := by omega
    simp [h1]
    omega
  unfold pickD
  rw [e1, sliceRange_one, pick_l]
  simp
theorem pickD_from {α : Type} (ds : List α) (k : Nat) : pickD ds (some (k : Int)) none none = ds.drop k := by
  have e1 : sliceBounds (some (k : Int)) none none ds.length = (((min k ds.length : Nat) : Int), ((ds.length : Nat) : Int), 1) := by
    unfold sliceBounds
    have h1 : ¬ (k : Int) < 0 := by omega
    simp [h1]
    omega
  unfold pickD
  rw [e1, sliceRange_one, pick_l]
  by_cases h : k ≤ ds.length
  · rw [Nat.min_eq_left h, List.take_of_length_le (by rw [List.length_drop]; omega)]
  · rw [Nat.min_eq_right (by omega), List.drop_of_length_le (by omega), List.drop_of_length_le (by omega)]; simp
theorem fmap_congr {α β : Type} {f g : α → Option β} : ∀ (l : List α), (∀ x ∈ l, f x = g x) → l.filterMap f = l.filterMap g
  | [], _ => rfl
  | a :: r, h => by
    rw [List.filterMap_cons, List.filterMap_cons, h a (.head _), fmap_congr r fun x hx => h x (.tail _ hx)]
theorem pickD_rev {α : Type} (ds : List α) : pickD ds none none (some (-1)) = ds.reverse := by
  have e1 : sliceBounds none none (some (-1)) ds.length = ((ds.length : Int) - 1, -1, -1) := by
    unfold sliceBounds; simp
  unfold pickD
  rw [e1]
  have e2 : sliceRange ((ds.length : Int) - 1) (-1) (-1) = (List.range ds.length).map fun k => ds.length - 1 - k := by
    unfold sliceRange
    simp only [gt_iff_lt, show ¬ ((0 : Int) < -1) by decide, if_false]
    have : (if (-1 : Int) < (ds.length : Int) - 1 then ((ds.length : Int) - 1 - -1 - -1 - 1) / (- -1) else 0).toNat = ds.length := by
      split <;> simp <;> omega
    rw [this]
    apply List.map_congr_left
    intro k hk
    have := List.mem_range.mp hk
    omega
  rw [e2]
  have e3 : ((List.range ds.length).map fun k => ds.length - 1 - k).filterMap (ds[·]?) = ((List.range ds.length).map (0 + ·)).filterMap (ds.reverse[·]?) := by
    rw [List.filterMap_map, List.filterMap_map]
    refine fmap_congr _ fun k hk => ?_
    have hk' := List.mem_range.mp hk
    show ds[ds.length - 1 - k]? = ds.reverse[0 + k]?
    rw [Nat.zero_add, List.getElem?_reverse hk']
  rw [e3, pick_l, List.drop_zero, List.take_of_length_le (by simp)]

/-- ends -/
theorem startswith_one (x : Str) (c : Nat) : Txt.startswith x (mk [c]) = ((cl x).head? == some c) := by
  unfold Txt.startswith
  rw [StrLaws.subAt_eq]
  have e : (mk [c]).length = 1 := rfl
  have e2 : (mk [c]).cps.toList = [c] := rfl
  rw [e, e2]
  have hl := cl_len x
  show (decide (0 + 1 ≤ x.length) && ((cl x).drop 0).take 1 == [c]) = _
  rw [← hl, List.drop_zero]
  cases cl x with
  | nil => simp
  | cons a r => simp
theorem endswith_iff (x y : Str) : Txt.endswith x y = true ↔ ∃ p, cl x = p ++ cl y := by
  unfold Txt.endswith
  rw [StrLaws.subAt_eq]
  show (decide (0 + y.length ≤ x.length) && ((cl x).drop (x.length - y.length)).take y.length == cl y) = true ↔ _
  rw [Bool.and_eq_true, decide_eq_true_iff, beq_iff_eq, ← cl_len x, ← cl_len y]
  constructor
  · rintro ⟨h1, h2⟩
    refine ⟨(cl x).take ((cl x).length - (cl y).length), ?_⟩
    rw [List.take_of_length_le (by rw [List.length_drop]; omega)] at h2
    rw [← h2, List.length_drop]
    have : (cl x).length - ((cl x).length - ((cl x).length - (cl y).length)) = (cl x).length - (cl y).length := by omega
    rw [this, List.take_append_drop]
  · rintro ⟨p, hp⟩
    rw [hp]
    refine ⟨by simp, ?_⟩
    rw [List.length_append, Nat.add_sub_cancel, List.drop_left, List.take_length]
theorem mul_one (c : Nat) (n : Nat) : cl (Txt.mul (mk [c]) (n : Int)) = List.replicate n c := by
  unfold Txt.mul
  by_cases h1 : (n : Int) < 1
  · rw [if_pos h1]
    have : n = 0 := by omega
    subst this; rfl
  · rw [if_neg h1]
    by_cases h2 : ((n : Int) == 1 || (mk [c]).length == 0) = true
    · rw [if_pos h2]
      have : n = 1 := by
        have e : (mk [c]).length = 1 := rfl
        rw [e] at h2
        simp at h2; omega
      subst this; rfl
    · rw [if_neg h2]
      show ((List.replicate (n : Int).toNat (mk [c]).cps).foldl (· ++ ·) #[]).toList = _
      have key : ∀ (k : Nat) (acc : Array Nat), ((List.replicate k (mk [c]).cps).foldl (· ++ ·) acc).toList = acc.toList ++ List.replicate k c := by
        intro k
        induction k with
        | zero => intro acc; simp
        | succ k ih =>
          intro acc
          rw [List.replicate_succ, List.foldl_cons, ih, List.replicate_succ]
          simp [mk]
      rw [key]
      simp
theorem rstrip_one {x : Str} {c : Nat} {l : List Nat} (hx : cl x = l ++ [c]) (hl : l ≠ []) (hc : l.getLast? ≠ some c) : Txt.rstripChars x (mk [c]) = mk l := by
  have hlen : x.length = l.length + 1 := by rw [← cl_len, hx]; simp
  obtain ⟨h1, h2, h3, h4⟩ := hi_facts (mk [c]).cps.contains x 0 (Nat.zero_le _)
  have hg : ∀ k, x.cps.getD k 0 = (cl x).getD k 0 := by intro k; simp [cl]
  have hcon : ∀ b, (mk [c]).cps.contains b = (b == c) := by intro b; simp [mk]; rw [Bool.eq_iff_iff]; simp
  have e : stripHi (mk [c]).cps.contains true x 0 = l.length := by
    generalize stripHi (mk [c]).cps.contains true x 0 = H at h1 h2 h3 h4
    have a1 : ¬ l.length < H := fun q => by
      have hH : H = l.length + 1 := by omega
      rcases h4 with h4 | h4
      · omega
      · rw [hH, hg, hx, hcon] at h4
        simp at h4
    have a2 : ¬ H < l.length := fun q => by
      have := h3 (l.length - 1) (by omega) (by omega)
      rw [hg, hx, hcon] at this
      apply hc
      rw [List.getLast?_eq_getElem?]
      have hlt : l.length - 1 < l.length := by omega
      rw [List.getD_eq_getElem?_getD, List.getElem?_append_left hlt, List.getElem?_eq_getElem hlt] at this
      rw [List.getElem?_eq_getElem hlt]
      simpa using this
    omega
  unfold Txt.rstripChars Txt.stripBy
  have hlo : stripLo (mk [c]).cps.contains false x = 0 := by simp [stripLo]
  have hs : stripSame (mk [c]).cps.contains false true x = false := by
    unfold stripSame
    rw [hlo, e, hlen]
    simp
  rw [hs]
  unfold PySem.stripped
  rw [hlo, e]
  apply cl_inj
  show (strSub x 0 l.length).cps.toList = l
  rw [StrLaws.strSub_toList]
  show ((cl x).drop 0).take (l.length - 0) = l
  rw [hx]; simp
end Mine
end PdTPart
section PdEPart
open PySem PySem.W PyProof.Rows
namespace Mine

def upd (r : Str → Option D) (x : Str) (d : D) : Str → Option D := fun y => if y = x then some d else r y

abbrev Cx.set (c : Cx) (x : Str) (d : D) : Cx := { c with rho := upd c.rho x d }

structure St (c : Cx) (s₀ s : Shared) : Prop where
  fr : ∃ m cm, InCallC s₀ c.env.locals m c.env.cells cm s
  sv : Sv c s.heap
  ok : EnvOk c.env
  lmu : c.env.locals ∈ c.mu
  cmu : ∀ x a, (x, a) ∈ c.env.cells → a ∈ c.mu
  omu : ∀ x r ds, c.ow = some (x, r, ds) → r ∈ c.mu ∧ r ≠ c.env.locals ∧ (∀ y a, (y, a) ∈ c.env.cells → r ≠ a) ∧ s₀.heap.get? r = none
  pmu : ∀ p ∈ c.pin, p.1 ≠ c.env.locals ∧ (∀ y a, (y, a) ∈ c.env.cells → p.1 ≠ a) ∧ (∀ x r ds, c.ow = some (x, r, ds) → p.1 ≠ r)

theorem inCallC_ext {s₀ s : Shared} {L : Addr} {m cm : Str → Option Value} {cs : List (Str × Addr)} (x : InCallC s₀ L m cs cm s) {h' : Heap} (e : Ext s.heap h') (tk : Nat) : InCallC s₀ L m cs cm { s with heap := h', toks := tk } where
  toInCall := ⟨by obtain ⟨h, t, rfl⟩ := x.toInCall.same; exact ⟨h', tk, rfl⟩, x.toInCall.ns.keeps e, fun b o q => e b o (x.toInCall.keep b o q), x.toInCall.fresh⟩
  cell := fun n c hc => (x.cell n c hc).keeps e
  apart := x.apart
  above := x.above

section
variable {c : Cx} {s₀ s : Shared}
theorem St.ext (x : St c s₀ s) {h' : Heap} (e : Ext s.heap h') (tk : Nat) : St c s₀ { s with heap := h', toks := tk } where
  fr := let ⟨m, cm, f⟩ := x.fr; ⟨m, cm, inCallC_ext f e tk⟩
  sv := x.sv.ext e
  ok := x.ok
  lmu := x.lmu
  cmu := x.cmu
  omu := x.omu
  pmu := x.pmu
theorem St.ev {e : Expr} {d : D} {Q : Value → Shared → Prop} {E : Value → Shared → Prop} (st : St c s₀ s) (he : Ev c e d) (h : ∀ v s', St c s₀ s' → Rep (hide c.mu s'.heap) v d → Q v s') : wpAny c.M c.A (eval e c.env) Q E s :=
  he.run s Q E st.sv fun _ _ tk x p => h _ _ (st.ext x tk) p
theorem St.tr {e : Expr} {b : Bool} {Q : Bool → Shared → Prop} {E : Value → Shared → Prop} (st : St c s₀ s) (he : Tr c e b) (h : ∀ s', St c s₀ s' → Q b s') : wpAny c.M c.A (isTrue e c.env (eval e c.env)) Q E s :=
  he.run s Q E st.sv fun _ tk x => h _ (st.ext x tk)

def Stores (env : Env) (x : Str) : Prop := env.kindOf x = some .local ∨ (env.kindOf x = some .cell ∧ (env.cells.lookup x).isSome = true)

/-- a store, from the frame's own move -/
theorem St.moved {x : Str} {d : D} {v : Value} {s' : Shared} {b : Addr} (st : St c s₀ s) (hb : b ∈ c.mu) (fr : ∃ m cm, InCallC s₀ c.env.locals m c.env.cells cm s') (hs : Heap.SameBut b s.heap s'.heap)
    (hx : Rd c.env s'.heap x v) (hrep : Rep (hide c.mu s.heap) v d) (hrd : ∀ y u, y ≠ x → Rd c.env s.heap y u → Rd c.env s'.heap y u) (hbo : ∀ y r ds, c.ow = some (y, r, ds) → y ≠ x ∧ r ≠ b)
    (hpb : (s'.heap.get? b).isSome = true) (hpin : ∀ p ∈ c.pin, p.1 ≠ b) (gl : Gl c.K s'.heap) : St (c.set x d) s₀ s' where
  fr := fr
  ok := st.ok
  lmu := st.lmu
  cmu := st.cmu
  omu := st.omu
  pmu := st.pmu
  sv := {
    gl := gl
    bound := fun a ha => by
      by_cases e : a = b
      · subst e; exact hpb
      · rw [hs.2 a e]; exact st.sv.bound a ha
    rd := fun y e hy => by
      have hy' : (if y = x then some d else c.rho y) = some e := hy
      by_cases hyx : y = x
      · subst hyx; simp at hy'; subst hy'; exact ⟨v, hx, hrep.mono (hide_sameBut hb hs)⟩
      · rw [if_neg hyx] at hy'
        obtain ⟨u, r, p⟩ := st.sv.rd y e hy'
        exact ⟨u, hrd y u hyx r, p.mono (hide_sameBut hb hs)⟩
    own := fun y r ds hy => by
      obtain ⟨a, vs, n, g, q⟩ := st.sv.own y r ds hy
      obtain ⟨h1, h2⟩ := hbo y r ds hy
      exact ⟨hrd y _ h1 a, vs, n, (hs.2 r h2).trans g, q.mono (hide_sameBut hb hs)⟩
    pin := fun p hp => (hs.2 _ (hpin p hp)).trans (st.sv.pin p hp)
    dat := fun v d q => (st.sv.dat v d q).mono (hide_sameBut hb hs) }


theorem St.store {x : Str} {v : Value} {d : D} {Q : Unit → Shared → Prop} {E : Value → Shared → Prop} (st : St c s₀ s) (g0 : Gl c.K s₀.heap) (hx : Stores c.env x) (hrep : Rep (hide c.mu s.heap) v d) (hox : ∀ y r ds, c.ow = some (y, r, ds) → y ≠ x)
    (h : ∀ s', St (c.set x d) s₀ s' → Q () s') : wpAny c.M c.A (storeName c.env x v) Q E s := by
  obtain ⟨m, cm, f⟩ := st.fr
  rcases hx with hl | ⟨hl, hc⟩
  · refine wpAny_storeName_local hl f.toInCall.ns (fun h' hn' hs' => h _ ?_) (by rw [st.ok.fn]; rfl)
    have fr' : InCallC s₀ c.env.locals (fun y => if y = x then some v else m y) c.env.cells cm { s with heap := h', toks := s.toks + 1 } := by
      refine ⟨⟨?_, hn', fun b o e => ?_, f.toInCall.fresh⟩, fun k a hk => ?_, f.apart, f.above⟩
      · obtain ⟨h₁, tk, rfl⟩ := f.toInCall.same; exact ⟨h', _, rfl⟩
      · exact hs'.extBut b o (Nat.ne_of_lt (Nat.lt_of_lt_of_le (Heap.lt_size e) f.toInCall.fresh)) (f.toInCall.keep b o e)
      · exact (f.cell k a hk).sameBut hs' (Nat.ne_of_gt (f.above k a (mem_of_lookup hk)))
    refine st.moved st.lmu ⟨_, _, fr'⟩ hs' (.inl ⟨hl, _, hn', by simp⟩) hrep (fun y u hyx r => ?_) (fun y r ds hy => ⟨hox y r ds hy, (st.omu y r ds hy).2.1⟩) ?_ (fun p hp => (st.pmu p hp).1) (g0.ext fr'.toInCall.keep)
    · rcases r with ⟨hk, m', hn, hm⟩ | ⟨hk, a, ha, hcl⟩
      · have e : m' y = m y := by
          obtain ⟨o, es, ep, h1, h2, h3, h4⟩ := hn
          obtain ⟨o', es', ep', g1, g2, g3, g4⟩ := f.toInCall.ns
          rw [h1] at g1; cases g1; rw [h2] at g2; cases g2
          exact (h4 y).symm.trans (g4 y)
        exact .inl ⟨hk, _, hn', by simp [hyx, ← e, hm]⟩
      · exact .inr ⟨hk, a, ha, hcl.sameBut hs' (Nat.ne_of_gt (f.above y a (mem_of_lookup ha)))⟩
    · obtain ⟨o, _, _, ho, _⟩ := hn'
      show (h'.get? c.env.locals).isSome = true
      rw [ho]; rfl
  · obtain ⟨a, ha⟩ := Option.isSome_iff_exists.mp hc
    have hLa := f.above x a (mem_of_lookup ha)
    refine wpAny_storeName_cell st.ok.fn hl ha (f.cell x a ha) fun h' hc' hs' => h _ ?_
    have fr' : InCallC s₀ c.env.locals m c.env.cells (fun y => if y = x then some v else cm y) { s with heap := h' } := by
      refine ⟨⟨?_, f.toInCall.ns.sameBut hs' (Nat.ne_of_lt hLa), fun b o e => ?_, f.toInCall.fresh⟩, fun k a' hk => ?_, f.apart, f.above⟩
      · obtain ⟨h₁, tk, rfl⟩ := f.toInCall.same; exact ⟨h', _, rfl⟩
      · exact hs'.extBut b o (Nat.ne_of_lt (Nat.lt_trans (Nat.lt_of_lt_of_le (Heap.lt_size e) f.toInCall.fresh) hLa)) (f.toInCall.keep b o e)
      · by_cases hkn : k = x
        · subst hkn; rw [ha] at hk; cases hk; simpa using hc'
        · rw [if_neg hkn]
          exact (f.cell k a' hk).sameBut hs' fun e => hkn (name_of_addr f.apart (mem_of_lookup hk) (e ▸ mem_of_lookup ha))
    refine st.moved (st.cmu x a (mem_of_lookup ha)) ⟨_, _, fr'⟩ hs' (.inr ⟨.inl hl, a, ha, hc'⟩) hrep (fun y u hyx r => ?_) (fun y r ds hy => ⟨hox y r ds hy, (st.omu y r ds hy).2.2.1 x a (mem_of_lookup ha)⟩) ?_ (fun p hp => (st.pmu p hp).2.1 x a (mem_of_lookup ha)) (g0.ext fr'.toInCall.keep)
    · rcases r with ⟨hk, m', hn, hm⟩ | ⟨hk, a', ha', hcl⟩
      · exact .inl ⟨hk, m', hn.sameBut hs' (Nat.ne_of_lt hLa), hm⟩
      · exact .inr ⟨hk, a', ha', hcl.sameBut hs' fun e => hyx (name_of_addr f.apart (mem_of_lookup ha') (e ▸ mem_of_lookup ha))⟩
    · obtain ⟨o, ho, _⟩ := hc'
      show (h'.get? a).isSome = true
      rw [ho]; rfl

theorem St.assign {x : Str} {e : Expr} {d : D} {p p' : Pos} {rest : List Stmt} {Q : Flow → Shared → Prop} {E : Value → Shared → Prop} (st : St c s₀ s) (g0 : Gl c.K s₀.heap) (he : Ev c e d) (hx : Stores c.env x) (hox : ∀ y r ds, c.ow = some (y, r, ds) → y ≠ x)
    (hs : swapsWith e (some (.Name x p')) p.line c.env = pure false) (h : ∀ s', St (c.set x d) s₀ s' → wpAny c.M c.A (execs rest c.env) Q E s') : wpAny c.M c.A (execs (.Assign [.Name x p'] e p :: rest) c.env) Q E s :=
  wpAny_execs_cons (wpAny_Assign_Name (st.ev he fun _ _ st' pv => st'.store g0 hx pv hox fun _ st'' => h _ st'') hs)
theorem St.ret {e : Expr} {d : D} {p : Pos} {rest : List Stmt} {Q : Flow → Shared → Prop} {E : Value → Shared → Prop} (st : St c s₀ s) (he : Ev c e d) (h : ∀ v s', St c s₀ s' → Rep (hide c.mu s'.heap) v d → Q (.ret v) s') : wpAny c.M c.A (execs (.Return (some e) p :: rest) c.env) Q E s :=
  wpAny_execs_cons (wpAny_Return_some (st.ev he fun v s' st' pv => h v s' st' pv))
theorem St.if_ {t : Expr} {b : Bool} {body orelse rest : List Stmt} {p : Pos} {Q : Flow → Shared → Prop} {E : Value → Shared → Prop} (st : St c s₀ s) (ht : Tr c t b)
    (h1 : b = true → ∀ s', St c s₀ s' → wpAny c.M c.A (execs body c.env) (fun f s' => match f with | .next => wpAny c.M c.A (execs rest c.env) Q E s' | f => Q f s') E s')
    (h2 : b = false → ∀ s', St c s₀ s' → wpAny c.M c.A (execs orelse c.env) (fun f s' => match f with | .next => wpAny c.M c.A (execs rest c.env) Q E s' | f => Q f s') E s') :
    wpAny c.M c.A (execs (.If t body orelse p :: rest) c.env) Q E s := by
  refine wpAny_execs_cons (wpAny_If (st.tr ht fun s' st' => ?_))
  cases b with
  | true => exact h1 rfl s' st'
  | false => exact h2 rfl s' st'

/-- what a call leaves -/
def Done (s₀ : Shared) (mu : List Addr) (d : D) (v : Value) (s' : Shared) : Prop := ∃ h' tk, s' = { s₀ with heap := h', toks := tk } ∧ Ext s₀.heap h' ∧ Rep (hide mu h') v d
theorem St.done {mu : List Addr} {v : Value} {d : D} (st : St c s₀ s) (hm : ∀ b ∈ mu, b ∈ c.mu) (p : Rep (hide c.mu s.heap) v d) : Done s₀ mu d v s := by
  obtain ⟨m, cm, f⟩ := st.fr
  obtain ⟨h', tk, e⟩ := f.toInCall.same
  refine ⟨h', tk, e, ?_, ?_⟩
  · have := f.toInCall.keep; rw [e] at this; exact this
  · have := p.mono (hide_sub hm); rw [e] at this; exact this
end

/-- entering a def of the text -/
structure FnAt (K : Frag) (a : Addr) (fd : FuncData) (body : List Stmt) : Prop where
  look : ∃ o, K.lookup a = some o ∧ o.data = .func fd
  code : codeIn K fd.code fd.qualname = true
  body : fd.body = .stmts body
  clo : fd.closure = []
  glo : fd.globals = mainGlobals
  bui : fd.builtins = builtinsNs
  co : fd.scope.isCoroutine = false
  gen : fd.scope.isGenerator = false
  kind : fd.scope.kind = .function

abbrev cxOf (prog : Program) (w : World) (A : Around) (K : Frag) (fd : FuncData) (L a : Addr) (mu : List Addr) (rho : Str → Option D) : Cx :=
  { prog, w, A := A.deeper (callEnvC fd L a), K, env := callEnvC fd L a, mu := (L :: (callEnvC fd L a).cells.map (·.2)) ++ mu, rho, ow := none }

/-- the heart of a def: its body does what is said -/
structure BodyDoes (prog : Program) (w : World) (K : Frag) (k : Nat) (a : Addr) (fd : FuncData) (body : List Stmt) (rho : Str → Option D) (d : D) : Prop where
  run : ∀ (A : Around) (L : Addr) (mu : List Addr) (s₀ s : Shared) (Q : Flow → Shared → Prop) (E : Value → Shared → Prop), Room (A.deeper (callEnvC fd L a)) k → Gl K s₀.heap →
    St (cxOf prog w A K fd L a mu rho) s₀ s → (∀ v s', Done s₀ mu d v s' → Q (.ret v) s') → wpAny (model prog w) (A.deeper (callEnvC fd L a)) (execs body (callEnvC fd L a)) Q E s

theorem rd_bind {fd : FuncData} {L a : Addr} {n : Str} {v : Value} {s₀ s : Shared} {m cm : Str → Option Value} (f : InCallC s₀ (callEnvC fd L a).locals m (callEnvC fd L a).cells cm s)
    (h : (fd.scope.names.lookup n = some .local ∧ m n = some v) ∨ (fd.scope.names.lookup n = some .cell ∧ ((callEnvC fd L a).cells.lookup n).isSome = true ∧ cm n = some v)) : Rd (callEnvC fd L a) s.heap n v := by
  rcases h with ⟨h1, h2⟩ | ⟨h1, h2, h3⟩
  · exact .inl ⟨h1, m, f.toInCall.ns, h2⟩
  · obtain ⟨c, hc⟩ := Option.isSome_iff_exists.mp h2
    exact .inr ⟨.inl h1, c, hc, h3 ▸ f.cell n c hc⟩

theorem st_enter {prog : Program} {w : World} {A : Around} {K : Frag} {fd : FuncData} {a : Addr} {body : List Stmt} {mu : List Addr} {rho : Str → Option D} {s₀ s : Shared} {m cm : Str → Option Value} (fa : FnAt K a fd body) (gl : Gl K s₀.heap) (hmu : ∀ b ∈ mu, (s₀.heap.get? b).isSome = true)
    (f : InCallC s₀ (callEnvC fd s₀.heap.objs.size a).locals m (callEnvC fd s₀.heap.objs.size a).cells cm s)
    (hcells : ∀ x c, (x, c) ∈ (callEnvC fd s₀.heap.objs.size a).cells → (s.heap.get? c).isSome = true)
    (hr : ∀ x d, rho x = some d → ∃ v, Rd (callEnvC fd s₀.heap.objs.size a) s.heap x v ∧ Rep (hide mu s₀.heap) v d) :
    St (cxOf prog w A K fd s₀.heap.objs.size a mu rho) s₀ s where
  fr := ⟨m, cm, f⟩
  ok := ⟨fa.kind, fa.glo, fa.bui⟩
  lmu := List.mem_append_left _ (.head _)
  cmu := fun x c hc => List.mem_append_left _ (.tail _ (List.mem_map.mpr ⟨(x, c), hc, rfl⟩))
  omu := fun _ _ _ h => by cases h
  pmu := fun _ h => by cases h
  sv := {
    gl := gl.ext f.toInCall.keep
    bound := fun b hb => by
      rcases List.mem_append.mp hb with hb | hb
      · rcases List.mem_cons.mp hb with rfl | hb
        · obtain ⟨o, _, _, ho, _⟩ := f.toInCall.ns
          show (s.heap.get? (callEnvC fd s₀.heap.objs.size a).locals).isSome = true
          rw [ho]; rfl
        · obtain ⟨⟨x, c⟩, hc, rfl⟩ := List.mem_map.mp hb
          exact hcells x c hc
      · obtain ⟨o, ho⟩ := Option.isSome_iff_exists.mp (hmu b hb)
        rw [f.toInCall.keep b o ho]; rfl
    rd := fun x d hx => by
      obtain ⟨v, r, p⟩ := hr x d hx
      refine ⟨v, r, p.mono (hide_new (fun b hb => ?_) f.toInCall.keep)⟩
      have hle : s₀.heap.objs.size ≤ b := by
        rcases List.mem_cons.mp hb with rfl | hb
        · exact Nat.le_refl _
        · obtain ⟨⟨x, c⟩, hc, rfl⟩ := List.mem_map.mp hb
          exact Nat.le_of_lt (f.above x c hc)
      cases e : s₀.heap.get? b with
      | none => rfl
      | some o => exact absurd (Heap.lt_size e) (Nat.not_lt.mpr hle)
    own := fun _ _ _ h => by cases h
    pin := fun _ h => by cases h
    dat := fun _ _ h => h.elim }

def rho1 (n : Str) (d : D) : Str → Option D := fun y => if y = n then some d else none
def rho2 (n1 : Str) (d1 : D) (n2 : Str) (d2 : D) : Str → Option D := fun y => if y = n1 then some d1 else if y = n2 then some d2 else none

theorem mem_lookup_some {cs : List (Str × Addr)} (hn : (cs.map (·.1)).Nodup) {x : Str} {c : Addr} (h : (x, c) ∈ cs) : cs.lookup x = some c := by
  induction cs with
  | nil => cases h
  | cons p r ih =>
    obtain ⟨k, q⟩ := p
    rw [List.map_cons, List.nodup_cons] at hn
    rcases List.mem_cons.mp h with e | hr
    · cases e; rw [List.lookup_cons, beq_self_eq_true]
    · have : (x == k) = false := by
        apply beq_false_of_ne
        intro e
        exact hn.1 (e ▸ List.mem_map.mpr ⟨(x, c), hr, rfl⟩)
      rw [List.lookup_cons, this]
      exact ih hn.2 hr

theorem Fn.intro1 {prog : Program} {w : World} {K : Frag} {k : Nat} {a : Addr} {fd : FuncData} {body : List Stmt} {n : Str} {d1 d : D} (fa : FnAt K a fd body) (hb : ∀ v, bindArgs fd ⟨[v], []⟩ = pure [(n, v)])
    (hn : ∀ L : Addr, ((cellsFrom (L + 1) fd.scope.names []).map (·.1)).Nodup)
    (hk : fd.scope.names.lookup n = some .local ∨ (fd.scope.names.lookup n = some .cell ∧ ∀ L : Addr, ((cellsFrom (L + 1) fd.scope.names []).lookup n).isSome = true))
    (hd : BodyDoes prog w K k a fd body (rho1 n d1) d) : Fn prog w K (k + 1) a [d1] d := by
  refine ⟨?_⟩
  intro A s mu vs Q E room gl hmu rs h
  obtain ⟨v, rfl, pv⟩ := rs.one
  obtain ⟨o, ho, hfd⟩ := fa.look
  refine wpAny_call (codeAny_call_cells (binds := [(n, v)]) (by have := room.dp; unfold recursionLimit; omega) (gl.kin _ _ ho) hfd gl.lim (codeRec_of gl.kin fa.code) fa.body (hb v) fa.clo ?_ (fun s₁ f => ?_) fa.co fa.gen fa.kind)
  · intro x hx
    rcases List.mem_singleton.mp hx with rfl
    exact hk.imp id fun ⟨q1, q2⟩ => ⟨q1, q2 _⟩
  · refine hd.run A s.heap.objs.size mu s s₁ _ _ room.deeper gl (st_enter fa gl hmu f ?_ ?_) ?_
    · intro x c hc
      obtain ⟨o, ho, _⟩ := f.cell x c (mem_lookup_some (hn _) hc)
      rw [ho]; rfl
    · intro x d' hx
      unfold rho1 at hx
      by_cases hxn : x = n
      · subst hxn
        simp at hx; subst hx
        refine ⟨v, rd_bind f ?_, pv⟩
        rcases hk with q | ⟨q1, q2⟩
        · refine .inl ⟨q, ?_⟩
          have q' : (callEnvC fd s.heap.objs.size a).kindOf x = some .local := q
          simp [bindL, q']
        · refine .inr ⟨q1, q2 _, ?_⟩
          have q' : (callEnvC fd s.heap.objs.size a).kindOf x = some .cell := q1
          simp [bindC, q']
      · rw [if_neg hxn] at hx; cases hx
    · rintro v s' ⟨h', tk, rfl, x, p⟩
      exact h _ _ _ x p
theorem Fn.intro2 {prog : Program} {w : World} {K : Frag} {k : Nat} {a : Addr} {fd : FuncData} {body : List Stmt} {n1 n2 : Str} {d1 d2 d : D} (fa : FnAt K a fd body) (hb : ∀ v v', bindArgs fd ⟨[v, v'], []⟩ = pure [(n1, v), (n2, v')])
    (hn : ∀ L : Addr, ((cellsFrom (L + 1) fd.scope.names []).map (·.1)).Nodup) (h12 : n2 ≠ n1)
    (hk1 : fd.scope.names.lookup n1 = some .local) (hk2 : fd.scope.names.lookup n2 = some .local)
    (hd : BodyDoes prog w K k a fd body (rho2 n1 d1 n2 d2) d) : Fn prog w K (k + 1) a [d1, d2] d := by
  refine ⟨?_⟩
  intro A s mu vs Q E room gl hmu rs h
  obtain ⟨v, v', rfl, pv, pv'⟩ := rs.two
  obtain ⟨o, ho, hfd⟩ := fa.look
  refine wpAny_call (codeAny_call_cells (binds := [(n1, v), (n2, v')]) (by have := room.dp; unfold recursionLimit; omega) (gl.kin _ _ ho) hfd gl.lim (codeRec_of gl.kin fa.code) fa.body (hb v v') fa.clo ?_ (fun s₁ f => ?_) fa.co fa.gen fa.kind)
  · intro x hx
    rcases List.mem_cons.mp hx with rfl | hx
    · exact .inl hk1
    · rcases List.mem_singleton.mp hx with rfl
      exact .inl hk2
  · have q1 : (callEnvC fd s.heap.objs.size a).kindOf n1 = some .local := hk1
    have q2 : (callEnvC fd s.heap.objs.size a).kindOf n2 = some .local := hk2
    refine hd.run A s.heap.objs.size mu s s₁ _ _ room.deeper gl (st_enter fa gl hmu f ?_ ?_) ?_
    · intro x c hc
      obtain ⟨o, ho, _⟩ := f.cell x c (mem_lookup_some (hn _) hc)
      rw [ho]; rfl
    · intro x d' hx
      unfold rho2 at hx
      by_cases hx1 : x = n1
      · subst hx1
        simp at hx; subst hx
        exact ⟨v, rd_bind f (.inl ⟨hk1, by simp [bindL, q1, q2, Ne.symm h12]⟩), pv⟩
      · rw [if_neg hx1] at hx
        by_cases hx2 : x = n2
        · subst hx2
          simp at hx; subst hx
          exact ⟨v', rd_bind f (.inl ⟨hk2, by simp [bindL, q1, q2]⟩), pv'⟩
        · rw [if_neg hx2] at hx; cases hx
    · rintro v s' ⟨h', tk, rfl, x, p⟩
      exact h _ _ _ x p
end Mine
namespace Mine
theorem Ev.eq {c : Cx} {e : Expr} {d d' : D} (h : Ev c e d') (x : d' = d) : Ev c e d := x ▸ h
theorem Tr.eq {c : Cx} {e : Expr} {d d' : Bool} (h : Tr c e d') (x : d' = d) : Tr c e d := x ▸ h
end Mine
namespace Mine
def methId (n : Str) : Option String :=
  if n = Str.ofString "lower" then some "str.lower" else if n = Str.ofString "upper" then some "str.upper" else if n = Str.ofString "find" then some "str.find"
  else if n = Str.ofString "rfind" then some "str.rfind" else if n = Str.ofString "startswith" then some "str.startswith" else if n = Str.ofString "endswith" then some "str.endswith"
  else if n = Str.ofString "rstrip" then some "str.rstrip" else if n = Str.ofString "split" then some "str.split" else if n = Str.ofString "join" then some "str.join" else none
theorem Meth.s {c : Cx} {name : Str} {id : String} {pl : Sem Bool} {x : Str} (h : methId name = some id) : Meth c name id pl (.str x) := by
  unfold methId at h
  split at h
  · rename_i e; subst e; cases h; exact Meth.lower
  split at h
  · rename_i e; subst e; cases h; exact Meth.upper
  split at h
  · rename_i e; subst e; cases h; exact Meth.find
  split at h
  · rename_i e; subst e; cases h; exact Meth.rfind
  split at h
  · rename_i e; subst e; cases h; exact Meth.startswith
  split at h
  · rename_i e; subst e; cases h; exact Meth.endswith
  split at h
  · rename_i e; subst e; cases h; exact Meth.rstrip
  split at h
  · rename_i e; subst e; cases h; exact Meth.split
  split at h
  · rename_i e; subst e; cases h; exact Meth.join
  · cases h
theorem Ev.methS {c : Cx} {o : Expr} {name : Str} {id : String} {apos pos : Pos} {args : List Expr} {pl : Sem Bool} {x : Str} {d : D} {ds : List D} (ho : Ev c o (.str x)) (ha : Evs c args ds) (hid : methId name = some id) (hc : Bi c (.builtin id) (.str x :: ds) d) (hb : (starEach args c.env).all (fun x => !x.1) = true)
    (he : eval (.Call (.Attribute o name apos) args [] pos) c.env = (do
      let ov ← eval o c.env
      standAt apos.atName
      let (f, first) ← holding [ov] (getMethod ov name pl)
      callWith pos f first (backTo pos (starEach args c.env)) [])) : Ev c (.Call (.Attribute o name apos) args [] pos) d := Ev.meth ho ha hb (Meth.s hid) hc he
end Mine
end PdEPart
section PdRPart
open PySem PySem.Sre
namespace Mine
/-! the machine of the pattern \.\d+$ -/
def ipCode : Array Nat := #[14, 8, 1, 2, 4294967295, 1, 1, 46, 0, 16, 46, 24, 9, 1, 4294967295, 13, 4, 8, 0, 0, 1, 6, 5, 1]

/-- m goes on to m' in k steps -/
def Go (k : Nat) (m m' : M) : Prop := ∀ j, m.runFor (k + j) = m'.runFor j
theorem Go.refl (m : M) : Go 0 m m := fun j => by rw [Nat.zero_add]
theorem Go.trans {k k' : Nat} {m m' m'' : M} (a : Go k m m') (b : Go k' m' m'') : Go (k + k') m m'' := fun j => by rw [Nat.add_assoc, a, b]
theorem Go.step {m : M} (h : m.outcome = none) : Go 1 m m.step := fun j => by
  rw [Nat.add_comm]
  show (if m.outcome.isSome then m else m.step.runFor j) = _
  rw [h]; rfl
theorem Go.to {m m' : M} (h : m.outcome = none) (e : m.step = m') : Go 1 m m' := e ▸ Go.step h
theorem runFor_end {m : M} (h : m.outcome.isSome = true) : ∀ j, m.runFor j = m
  | 0 => rfl
  | j + 1 => by show (if m.outcome.isSome then m else _) = m; rw [h]; rfl

structure Sx where
  pc : Nat
  pos : Nat
  start : Nat
  handed : Nat
  outer : Bool
  frames : List Sre.Frame
  weight : Nat
  answer : Option Bool
  seen : Seen
  outcome : Option Sre.Outcome := none
def mach (text : Array Nat) (x : Sx) : M :=
  { code := ipCode, text, lim := text.size, start := x.start, lastStart := text.size, wholeText := false, mustAdvance := false, pc := x.pc, pos := x.pos, handed := x.handed, outermost := x.outer,
    marks := #[], lastmark := -1, lastindex := -1, loops := #[], inner := none, frames := x.frames, weight := x.weight, answer := x.answer, seen := x.seen, outcome := x.outcome }

section
variable {text : Array Nat} {pos start handed weight : Nat} {outer : Bool} {frames : List Sre.Frame} {seen : Seen}

/-- the dot is there, or not -/
theorem step_lit (h : pos < text.size) (hc : text.getD pos 0 = 46) : ∃ seen', (mach text ⟨9, pos, start, handed, outer, frames, weight, none, seen, none⟩).step = mach text ⟨11, pos + 1, start, handed, outer, frames, weight, none, seen', none⟩ := by
  refine ⟨seen.add 16, ?_⟩
  show (if pos ≥ text.size then _ else (match (Except.ok (text.getD pos 0 == 46, seen.add 16) : Except String (Bool × Seen)) with | .error why => _ | .ok (false, seen) => _ | .ok (true, seen) => _)) = _
  rw [if_neg (by omega), hc]
  rfl
theorem step_lit_no (h : ¬ (pos < text.size ∧ text.getD pos 0 = 46)) : ∃ seen', (mach text ⟨9, pos, start, handed, outer, frames, weight, none, seen, none⟩).step = mach text ⟨9, pos, start, handed, outer, frames, weight, some false, seen', none⟩ := by
  refine ⟨seen.add 16, ?_⟩
  show (if pos ≥ text.size then _ else (match (Except.ok (text.getD pos 0 == 46, seen.add 16) : Except String (Bool × Seen)) with | .error why => _ | .ok (false, seen) => _ | .ok (true, seen) => _)) = _
  by_cases hp : pos ≥ text.size
  · rw [if_pos hp]; rfl
  · rw [if_neg hp]
    have : (text.getD pos 0 == 46) = false := by
      apply beq_false_of_ne
      intro e; exact h ⟨by omega, e⟩
    rw [this]; rfl

/-- how many figures stand from p on, of n at most -/
def dr (text : Array Nat) : Nat → Nat → Nat
  | 0, _ => 0
  | n + 1, p => if isDigit (text.getD p 0) = true then dr text n (p + 1) + 1 else 0
theorem accepts_digit (c : Nat) (seen : Seen) : ∃ seen', accepts ipCode 15 c seen = .ok (isDigit c, seen') := by
  cases h : isDigit c with
  | true =>
    refine ⟨(seen.add 8).add 55, ?_⟩
    show (do if ← (Except.map (· != false) (.ok (isDigit c)) : Except String Bool) then pure (true, (seen.add 8).add 55) else inSet ipCode c 23 19 true ((seen.add 8).add 55) : Except String (Bool × Seen)) = _
    rw [h]; rfl
  | false =>
    refine ⟨((seen.add 8).add 55).add 0, ?_⟩
    show (do if ← (Except.map (· != false) (.ok (isDigit c)) : Except String Bool) then pure (true, (seen.add 8).add 55) else inSet ipCode c 23 19 true ((seen.add 8).add 55) : Except String (Bool × Seen)) = _
    rw [h]; rfl
theorem run_digits : ∀ (n p found : Nat) (seen : Seen), ∃ seen', Sre.run ipCode text 15 n p found seen = .ok (found + dr text n p, seen')
  | 0, p, found, seen => ⟨seen, rfl⟩
  | n + 1, p, found, seen => by
    obtain ⟨s1, h1⟩ := accepts_digit (text.getD p 0) seen
    show ∃ seen', (do
      let (yes, seen) ← accepts ipCode 15 (text.getD p 0) seen
      if yes then Sre.run ipCode text 15 n (p + 1) (found + 1) seen else pure (found, seen) : Except String (Nat × Seen)) = _
    rw [h1]
    unfold dr
    cases hd : isDigit (text.getD p 0) with
    | true =>
      obtain ⟨s2, h2⟩ := run_digits n (p + 1) (found + 1) s1
      refine ⟨s2, ?_⟩
      show Sre.run ipCode text 15 n (p + 1) (found + 1) s1 = _
      rw [h2]
      simp; omega
    | false => exact ⟨s1, rfl⟩
def backF (p n : Nat) (outer : Bool) : Sre.Frame := { wait := .giveBack, pc := 11, pos := p + n, outermost := outer, count := (n : Int), kept := { lastmark := -1, lastindex := -1, whole := false, marks := #[] } }

theorem step_rep_no (h : dr text (min 4294967295 (text.size - pos)) pos = 0) : ∃ seen', (mach text ⟨11, pos, start, handed, outer, frames, weight, none, seen, none⟩).step = mach text ⟨11, pos, start, handed, outer, frames, weight, some false, seen', none⟩ := by
  by_cases hr : ((1 : Nat) : Int) > (text.size : Int) - (pos : Int)
  · refine ⟨seen.add 24, ?_⟩
    show (if ((1 : Nat) : Int) > (text.size : Int) - (pos : Int) then _ else _) = _
    rw [if_pos hr]; rfl
  · obtain ⟨s1, h1⟩ := run_digits (text := text) (min 4294967295 ((text.size : Int) - (pos : Int)).toNat) pos 0 ((seen.add 24).add 13)
    refine ⟨s1, ?_⟩
    show (if ((1 : Nat) : Int) > (text.size : Int) - (pos : Int) then _ else match Sre.run ipCode text 15 (min 4294967295 ((text.size : Int) - (pos : Int)).toNat) pos 0 ((seen.add 24).add 13) with | .error why => _ | .ok (n, seen) => _) = _
    rw [if_neg hr, h1]
    have e : ((text.size : Int) - (pos : Int)).toNat = text.size - pos := by omega
    rw [e, h]
    rfl
theorem step_rep {n : Nat} (h : dr text (min 4294967295 (text.size - pos)) pos = n + 1) (hw : weight + 1 ≤ 16777216) (hp : pos < text.size) :
    ∃ seen', (mach text ⟨11, pos, start, handed, outer, frames, weight, none, seen, none⟩).step = mach text ⟨21, pos + (n + 1), start, pos + (n + 1), outer, backF pos (n + 1) outer :: frames, weight + 1, none, seen', none⟩ := by
  have hr : ¬ ((1 : Nat) : Int) > (text.size : Int) - (pos : Int) := by omega
  obtain ⟨s1, h1⟩ := run_digits (text := text) (min 4294967295 ((text.size : Int) - (pos : Int)).toNat) pos 0 ((seen.add 24).add 13)
  refine ⟨s1, ?_⟩
  show (if ((1 : Nat) : Int) > (text.size : Int) - (pos : Int) then _ else match Sre.run ipCode text 15 (min 4294967295 ((text.size : Int) - (pos : Int)).toNat) pos 0 ((seen.add 24).add 13) with | .error why => _ | .ok (n, seen) => _) = _
  rw [if_neg hr, h1]
  have e : ((text.size : Int) - (pos : Int)).toNat = text.size - pos := by omega
  rw [e, h, Nat.zero_add]
  show (if n + 1 < 1 then _ else (if weight + 1 + 0 > 16777216 then _ else _)) = _
  rw [if_neg (by omega), if_neg (by omega)]
  rfl

def endAt (text : Array Nat) (pos : Nat) : Bool := pos == text.size || (pos + 1 == text.size && text.getD pos 0 == 10)
theorem step_at (h : endAt text pos = true) : ∃ seen', (mach text ⟨21, pos, start, handed, outer, frames, weight, none, seen, none⟩).step = mach text ⟨23, pos, start, handed, outer, frames, weight, none, seen', none⟩ := by
  refine ⟨(seen.add 6).add 48, ?_⟩
  show (if endAt text pos = true then _ else _) = _
  rw [h]; rfl
theorem step_at_no (h : endAt text pos = false) : ∃ seen', (mach text ⟨21, pos, start, handed, outer, frames, weight, none, seen, none⟩).step = mach text ⟨21, pos, start, handed, outer, frames, weight, some false, seen', none⟩ := by
  refine ⟨(seen.add 6).add 48, ?_⟩
  show (if endAt text pos = true then _ else _) = _
  rw [h]; rfl
theorem step_succ : ∃ seen', (mach text ⟨23, pos, start, handed, outer, frames, weight, none, seen, none⟩).step = mach text ⟨23, pos, start, pos, outer, frames, weight, some true, seen', none⟩ := by
  refine ⟨seen.add 1, ?_⟩
  show (if (outer && false) = true then _ else _) = _
  rw [Bool.and_false]; rfl
def startF (p : Nat) (outer : Bool) : Sre.Frame := { wait := .nextStart, pc := 9, pos := p, outermost := outer }
theorem step_back_yes {p n pc : Nat} {o : Bool} : (mach text ⟨pc, pos, start, handed, outer, backF p n o :: frames, weight + 1, some true, seen, none⟩).step = mach text ⟨11, p + n, start, handed, o, frames, weight, some true, seen, none⟩ := rfl
theorem step_back_no1 {p pc : Nat} {o : Bool} : (mach text ⟨pc, pos, start, handed, outer, backF p 1 o :: frames, weight + 1, some false, seen, none⟩).step = mach text ⟨11, p + 1, start, handed, o, frames, weight, some false, seen, none⟩ := rfl
theorem step_back_no {p n pc : Nat} {o : Bool} (hw : weight + 1 ≤ 16777216) : (mach text ⟨pc, pos, start, handed, outer, backF p (n + 2) o :: frames, weight + 1, some false, seen, none⟩).step =
    mach text ⟨21, p + (n + 1), start, p + (n + 1), o, backF p (n + 1) o :: frames, weight + 1, none, seen, none⟩ := by
  show (if ((n + 2 : Nat) : Int) - 1 < ((1 : Nat) : Int) then _ else (if weight + 1 + 0 > 16777216 then _ else _)) = _
  rw [if_neg (by omega), if_neg (by omega)]
  have e : ((n + 2 : Nat) : Int) - 1 = ((n + 1 : Nat) : Int) := by omega
  have e1 : p + (n + 2) - 1 = p + (n + 1) := by omega
  have key : ∀ (a : Nat) (b : Int), a = p + (n + 1) → b = ((n + 1 : Nat) : Int) →
      mach text ⟨21, a, start, a, o, { wait := .giveBack, pc := 11, pos := a, outermost := o, count := b, kept := { lastmark := -1, lastindex := -1, whole := false, marks := #[] } } :: frames, weight + 1, none, seen, none⟩ =
      mach text ⟨21, p + (n + 1), start, p + (n + 1), o, backF p (n + 1) o :: frames, weight + 1, none, seen, none⟩ := by
    rintro a b rfl rfl; rfl
  exact key _ _ e1 e
theorem step_start_yes {p pc : Nat} {o : Bool} : (mach text ⟨pc, pos, start, handed, outer, startF p o :: frames, weight + 1, some true, seen, none⟩).step = mach text ⟨9, p, start, handed, o, frames, weight, some true, seen, none⟩ := rfl
theorem step_start_no {p pc : Nat} {o : Bool} (h : p < text.size) (hw : weight + 1 ≤ 16777216) : (mach text ⟨pc, pos, start, handed, outer, startF p o :: frames, weight + 1, some false, seen, none⟩).step =
    mach text ⟨9, p + 1, p + 1, p + 1, false, startF (p + 1) false :: frames, weight + 1, none, seen, none⟩ := by
  show (if p < text.size then (if weight + 1 + 0 > 16777216 then _ else _) else _) = _
  rw [if_pos h, if_neg (by omega)]
  rfl
theorem step_start_end {p pc : Nat} {o : Bool} (h : ¬ p < text.size) : (mach text ⟨pc, pos, start, handed, outer, startF p o :: frames, weight + 1, some false, seen, none⟩).step = mach text ⟨9, p, start, handed, o, frames, weight, some false, seen, none⟩ := by
  show (if p < text.size then _ else _) = _
  rw [if_neg h]
  rfl
theorem step_end {pc : Nat} {b : Bool} : (mach text ⟨pc, pos, start, handed, outer, [], weight, some b, seen, none⟩).step = mach text ⟨pc, pos, start, handed, outer, [], weight, some b, seen, some (if b then .matched else .failed)⟩ := rfl
end

/-- what is sought: a dot, figures, the end -/
def hitAt (text : Array Nat) (p : Nat) : Bool :=
  decide (p < text.size) && text.getD p 0 == 46 && decide (0 < dr text (min 4294967295 (text.size - (p + 1))) (p + 1)) && endAt text (p + 1 + dr text (min 4294967295 (text.size - (p + 1))) (p + 1))

theorem dr_digit {text : Array Nat} : ∀ (n p i : Nat), i < dr text n p → isDigit (text.getD (p + i) 0) = true
  | 0, _, _, h => by simp [dr] at h
  | n + 1, p, i, h => by
    unfold dr at h
    split at h
    · rename_i hd
      cases i with
      | zero => exact hd
      | succ i =>
        have := dr_digit (text := text) n (p + 1) i (by omega)
        rw [show p + (i + 1) = p + 1 + i by omega]; exact this
    · omega
theorem dr_le {text : Array Nat} : ∀ (n p : Nat), dr text n p ≤ n
  | 0, _ => by simp [dr]
  | n + 1, p => by
    unfold dr; split
    · have := dr_le (text := text) n (p + 1); omega
    · omega

/-- giving back, one by one, never meets the end -/
theorem go_back {text : Array Nat} {start handed : Nat} {outer : Bool} {frames : List Sre.Frame} {weight p : Nat} (hw : weight + 1 ≤ 16777216) :
    ∀ (n : Nat) (pos pc : Nat) (seen : Seen), (∀ i, 1 ≤ i → i < n + 1 → endAt text (p + i) = false) →
      ∃ k pc' pos' handed' seen', k ≤ 2 * n + 1 ∧ Go k (mach text ⟨pc, pos, start, handed, outer, backF p (n + 1) outer :: frames, weight + 1, some false, seen, none⟩) (mach text ⟨pc', pos', start, handed', outer, frames, weight, some false, seen', none⟩) := by
  intro n
  induction n generalizing handed with
  | zero =>
    intro pos pc seen _
    exact ⟨1, 11, p + 1, handed, seen, by omega, Go.to rfl step_back_no1⟩
  | succ n ih =>
    intro pos pc seen h
    have g1 := Go.to (m := mach text ⟨pc, pos, start, handed, outer, backF p (n + 2) outer :: frames, weight + 1, some false, seen, none⟩) rfl (step_back_no hw)
    obtain ⟨s2, e2⟩ := step_at_no (text := text) (start := start) (handed := p + (n + 1)) (outer := outer) (frames := backF p (n + 1) outer :: frames) (weight := weight + 1) (seen := seen) (h (n + 1) (by omega) (by omega))
    have g2 := Go.to (m := mach text ⟨21, p + (n + 1), start, p + (n + 1), outer, backF p (n + 1) outer :: frames, weight + 1, none, seen, none⟩) rfl e2
    obtain ⟨k, pc', pos', handed', seen', hk, g3⟩ := ih (handed := p + (n + 1)) (p + (n + 1)) 21 s2 (fun i h1 h2 => h i h1 (by omega))
    exact ⟨1 + 1 + k, pc', pos', handed', seen', by omega, (g1.trans g2).trans g3⟩

/-- one start: a match, or on -/
theorem go_start {text : Array Nat} {p handed : Nat} {outer : Bool} (seen : Seen) (hsz : text.size ≤ 1000000) :
    (hitAt text p = true → ∃ k m, k ≤ 8 ∧ m.outcome = some .matched ∧ m.marks = #[] ∧ Go k (mach text ⟨9, p, p, handed, outer, [startF p outer], 1, none, seen, none⟩) m) ∧
    (hitAt text p = false → ∃ k pc' pos' handed' seen', k ≤ 2 * text.size + 5 ∧ Go k (mach text ⟨9, p, p, handed, outer, [startF p outer], 1, none, seen, none⟩) (mach text ⟨pc', pos', p, handed', outer, [startF p outer], 1, some false, seen', none⟩)) := by
  by_cases hl : p < text.size ∧ text.getD p 0 = 46
  · obtain ⟨s1, e1⟩ := step_lit (text := text) (start := p) (handed := handed) (outer := outer) (frames := [startF p outer]) (weight := 1) (seen := seen) hl.1 hl.2
    have g1 := Go.to (m := mach text ⟨9, p, p, handed, outer, [startF p outer], 1, none, seen, none⟩) rfl e1
    generalize hD : dr text (min 4294967295 (text.size - (p + 1))) (p + 1) = dd
    cases dd with
    | zero =>
      have hf : hitAt text p = false := by unfold hitAt; rw [hD]; simp
      refine ⟨fun h => (by rw [hf] at h; cases h), fun _ => ?_⟩
      obtain ⟨s2, e2⟩ := step_rep_no (text := text) (start := p) (handed := handed) (outer := outer) (frames := [startF p outer]) (weight := 1) (seen := s1) hD
      exact ⟨1 + 1, _, _, _, s2, by omega, g1.trans (Go.to rfl e2)⟩
    | succ n =>
      have hle := dr_le (text := text) (min 4294967295 (text.size - (p + 1))) (p + 1)
      rw [hD] at hle
      have hlt : p + 1 < text.size := by omega
      obtain ⟨s2, e2⟩ := step_rep (text := text) (start := p) (handed := handed) (outer := outer) (frames := [startF p outer]) (weight := 1) (seen := s1) hD (by omega) hlt
      have g2 := g1.trans (Go.to rfl e2)
      have hh : hitAt text p = endAt text (p + 1 + (n + 1)) := by
        unfold hitAt; rw [hD, hl.2]; simp [hl.1]
      cases he : endAt text (p + 1 + (n + 1)) with
      | true =>
        refine ⟨fun _ => ?_, fun h => (by rw [hh, he] at h; cases h)⟩
        obtain ⟨s3, e3⟩ := step_at (text := text) (start := p) (handed := p + 1 + (n + 1)) (outer := outer) (frames := [backF (p + 1) (n + 1) outer, startF p outer]) (weight := 2) (seen := s2) he
        obtain ⟨s4, e4⟩ := step_succ (text := text) (pos := p + 1 + (n + 1)) (start := p) (handed := p + 1 + (n + 1)) (outer := outer) (frames := [backF (p + 1) (n + 1) outer, startF p outer]) (weight := 2) (seen := s3)
        have g3 := (((g2.trans (Go.to rfl e3)).trans (Go.to rfl e4)).trans (Go.to rfl step_back_yes)).trans (Go.to rfl step_start_yes)
        exact ⟨_, _, by omega, rfl, rfl, g3.trans (Go.to rfl step_end)⟩
      | false =>
        refine ⟨fun h => (by rw [hh, he] at h; cases h), fun _ => ?_⟩
        obtain ⟨s3, e3⟩ := step_at_no (text := text) (start := p) (handed := p + 1 + (n + 1)) (outer := outer) (frames := [backF (p + 1) (n + 1) outer, startF p outer]) (weight := 2) (seen := s2) he
        have g3 := g2.trans (Go.to rfl e3)
        obtain ⟨k, pc', pos', handed', seen', hk, g4⟩ := go_back (text := text) (start := p) (handed := p + 1 + (n + 1)) (outer := outer) (frames := [startF p outer]) (weight := 1) (p := p + 1) (by omega) n (p + 1 + (n + 1)) 21 s3 (fun i h1 h2 => by
          have hd := dr_digit (text := text) (min 4294967295 (text.size - (p + 1))) (p + 1) i (by omega)
          unfold endAt
          have n1 : (p + 1 + i == text.size) = false := beq_false_of_ne (by omega)
          have n2 : (text.getD (p + 1 + i) 0 == 10) = false := by
            apply beq_false_of_ne
            intro e
            rw [e] at hd
            cases hd
          rw [n1, n2]; simp)
        exact ⟨_, pc', pos', handed', seen', by omega, g3.trans g4⟩
  · have hf : hitAt text p = false := by
      unfold hitAt
      by_cases h1 : p < text.size
      · have h2 : (text.getD p 0 == 46) = false := beq_false_of_ne fun e => hl ⟨h1, e⟩
        rw [h2]; simp
      · simp [h1]
    refine ⟨fun h => (by rw [hf] at h; cases h), fun _ => ?_⟩
    obtain ⟨s1, e1⟩ := step_lit_no (text := text) (start := p) (handed := handed) (outer := outer) (frames := [startF p outer]) (weight := 1) (seen := seen) hl
    exact ⟨1, _, _, _, s1, by omega, Go.to rfl e1⟩

def anyHit (text : Array Nat) : Nat → Nat → Bool
  | 0, _ => false
  | n + 1, p => hitAt text p || anyHit text n (p + 1)

/-- all starts from p on -/
theorem go_all {text : Array Nat} (hsz : text.size ≤ 1000000) : ∀ (n p handed : Nat) (outer : Bool) (seen : Seen), p + n = text.size + 1 → 1 ≤ n →
    ∃ k m, k ≤ n * (2 * text.size + 10) ∧ m.outcome = some (if anyHit text n p = true then .matched else .failed) ∧ m.marks = #[] ∧ Go k (mach text ⟨9, p, p, handed, outer, [startF p outer], 1, none, seen, none⟩) m := by
  intro n
  induction n with
  | zero => intro _ _ _ _ _ h; omega
  | succ n ih =>
    intro p handed outer seen hp _
    obtain ⟨hy, hn⟩ := go_start (text := text) (p := p) (handed := handed) (outer := outer) seen hsz
    unfold anyHit
    cases hh : hitAt text p with
    | true =>
      obtain ⟨k, m, hk, ho, hm, g⟩ := hy hh
      refine ⟨k, m, ?_, by simpa using ho, hm, g⟩
      have : 2 * text.size + 10 ≤ (n + 1) * (2 * text.size + 10) := Nat.le_mul_of_pos_left _ (by omega)
      omega
    | false =>
      obtain ⟨k, pc', pos', handed', seen', hk, g⟩ := hn hh
      have hmul : (n + 1) * (2 * text.size + 10) = n * (2 * text.size + 10) + (2 * text.size + 10) := by rw [Nat.add_mul, Nat.one_mul]
      cases n with
      | zero =>
        have hpe : ¬ p < text.size := by omega
        have g2 := (g.trans (Go.to rfl (step_start_end hpe))).trans (Go.to rfl step_end)
        exact ⟨_, _, by omega, rfl, rfl, g2⟩
      | succ n =>
        have hpe : p < text.size := by omega
        have g2 := g.trans (Go.to rfl (step_start_no hpe (by omega)))
        obtain ⟨k', m, hk', ho, hm, g3⟩ := ih (p + 1) (p + 1) false seen' (by omega) (by omega)
        exact ⟨_, m, by omega, by simpa using ho, hm, g2.trans g3⟩
end Mine
end PdRPart
section PdSPart
open PySem PySem.W PyProof.Rows PySem.Builtin.Re
namespace Mine

theorem runFor_add : ∀ (a b : Nat) (m : Sre.M), m.runFor (a + b) = (m.runFor a).runFor b
  | 0, b, m => by rw [Nat.zero_add]; rfl
  | a + 1, b, m => by
    rw [show a + 1 + b = (a + b) + 1 by omega]
    show (if m.outcome.isSome then m else m.step.runFor (a + b)) = Sre.M.runFor b (if m.outcome.isSome then m else m.step.runFor a)
    cases h : m.outcome.isSome with
    | true => rw [if_pos rfl, if_pos rfl, runFor_end h]
    | false => rw [if_neg Bool.false_ne_true, if_neg Bool.false_ne_true, runFor_add a b m.step]

section
variable {M : Model} {A : Around} {E : Value → Shared → Prop} {s : Shared}
theorem wpAny_reDrive : ∀ (T : Nat) (k : Nat) (m mf : Sre.M) (Q : Sre.M → Shared → Prop), Go k m mf → mf.outcome.isSome = true → k ≤ 4 * T → 1 ≤ T → Q mf s → wpAny M A (reDrive T m) Q E s
  | 0, _, _, _, _, _, _, _, h, _ => by omega
  | T + 1, k, m, mf, Q, g, ho, hk, _, hq => by
    show wpAny M A (if (m.runFor 4).outcome.isSome then pure (m.runFor 4) else (do rule "sre.turn"; reDrive T (m.runFor 4))) Q E s
    by_cases h4 : k ≤ 4
    · have e : m.runFor 4 = mf := by
        have := g (4 - k)
        rw [show k + (4 - k) = 4 by omega, runFor_end ho] at this
        exact this
      rw [e, if_pos ho]
      exact wpAny_pure hq
    · cases h1 : (m.runFor 4).outcome.isSome with
      | true =>
        have e : m.runFor 4 = mf := by
          have := g 0
          rw [show k + 0 = 4 + (k - 4) by omega, runFor_add, runFor_end h1] at this
          exact this
        rw [if_pos rfl, e]
        exact wpAny_pure hq
      | false =>
        rw [if_neg Bool.false_ne_true]
        refine wpAny_bind (wpAny_rule ?_)
        refine wpAny_reDrive T (k - 4) (m.runFor 4) mf Q (fun j => ?_) ho (by omega) (by omega) hq
        rw [← runFor_add, show 4 + (k - 4 + j) = k + j by omega]
        exact g j

theorem wpAny_reRunToEnd {k : Nat} {m mf : Sre.M} {b : Bool} {Q : Option Sre.M → Shared → Prop} (g : Go k m mf) (ho : mf.outcome = some (if b = true then .matched else .failed)) (hk : k ≤ 4 * 2 ^ 64) (hq : Q (if b = true then some mf else none) s) :
    wpAny M A (reRunToEnd m) Q E s := by
  unfold reRunToEnd
  refine wpAny_bind (wpAny_reDrive (2 ^ 64) k m mf _ g (by rw [ho]; rfl) hk (by decide) ?_)
  refine wpAny_bind (wpAny_forIn_list _ (fun _ _ s' => s' = s) _ (fun i rest u s' hs => ?_) (fun u s' hs => ?_) _ _ rfl)
  · subst hs
    split
    · exact wpAny_bind (wpAny_rule (wpAny_pure rfl))
    · exact wpAny_pure rfl
  · subst hs
    rw [ho]
    cases b with
    | true => exact wpAny_pure hq
    | false => exact wpAny_pure hq
end

theorem search_start (text : Array Nat) (h : 2 ≤ text.size) : Sre.forSearch ipCode text 0 0 text.size false = mach text ⟨9, 0, 0, 0, true, [startF 0 true], 1, none, ({} : Sre.Seen).add 14, none⟩ := by
  show (if (decide (0 > text.size) || decide (text.size - 0 < 2)) = true then _ else _) = _
  rw [if_neg (by simp; omega)]
  rfl
theorem search_short (text : Array Nat) (h : ¬ 2 ≤ text.size) : ∃ m, m.outcome = some Sre.Outcome.failed ∧ m.marks = #[] ∧ Go 1 (Sre.forSearch ipCode text 0 0 text.size false) m := by
  have e : Sre.forSearch ipCode text 0 0 text.size false = { Sre.forSearch ipCode text 0 0 text.size false with answer := some false, frames := [], outcome := none, marks := #[] } := by
    show (if (decide (0 > text.size) || decide (text.size - 0 < 2)) = true then _ else _) = _
    rw [if_pos (by simp; omega)]
    have e2 : Sre.forSearch ipCode text 0 0 text.size false = _ := if_pos (c := (decide (0 > text.size) || decide (text.size - 0 < 2)) = true) (by simp; omega)
    rw [e2]
    rfl
  rw [e]
  exact ⟨_, rfl, rfl, Go.to rfl rfl⟩
theorem hit_short (text : Array Nat) (h : ¬ 2 ≤ text.size) : ∀ n p, anyHit text n p = false := by
  intro n
  induction n with
  | zero => intro p; rfl
  | succ n ih =>
    intro p
    unfold anyHit
    rw [ih]
    have : hitAt text p = false := by
      unfold hitAt
      by_cases hp : p < text.size
      · have e : text.size - (p + 1) = 0 := by omega
        rw [e]
        simp [dr]
      · simp [hp]
    rw [this]; rfl
theorem search_go (text : Array Nat) (hsz : text.size ≤ 1000000) : ∃ k m, k ≤ 4 * 2 ^ 64 ∧ m.outcome = some (if anyHit text (text.size + 1) 0 = true then .matched else .failed) ∧ m.marks = #[] ∧ Go k (Sre.forSearch ipCode text 0 0 text.size false) m := by
  by_cases h : 2 ≤ text.size
  · rw [search_start text h]
    obtain ⟨k, m, hk, ho, hm, g⟩ := go_all hsz (text.size + 1) 0 0 true (({} : Sre.Seen).add 14) (by omega) (by omega)
    refine ⟨k, m, ?_, ho, hm, g⟩
    have : (text.size + 1) * (2 * text.size + 10) ≤ 1000001 * 2000010 := Nat.mul_le_mul (by omega) (by omega)
    omega
  · obtain ⟨m, ho, hm, g⟩ := search_short text h
    exact ⟨1, m, by omega, by rw [hit_short text h]; exact ho, hm, g⟩

/-! the method, and its answer's truth -/
theorem plainAttrs_pat : PlainAttrs "re.Pattern" :=
  ⟨⟨"object.__getattribute__", by rw [typeLookup_type, builtinLookup_eq_fast]; kernel_rfl, by decide +kernel⟩, by rw [typeLookup_type, builtinLookup_eq_fast]; kernel_rfl⟩
theorem slot_search : Slot "re.Pattern" (Str.ofString "search") "re.Pattern.search" :=
  .of (owner := "re.Pattern") (n := "search") (by rw [typeLookup_type, builtinLookup_eq_fast]; kernel_rfl) (by decide +kernel) (by decide +kernel) (by decide +kernel)
    (by first | exact .inl (by decide +kernel) | exact .inr (by decide +kernel)) (by rw [isSubtype_type]; kernel_rfl)
theorem type_search : typeOf (.builtin "re.Pattern.search") = pure (.type "method_descriptor") := by show builtinType _ = _; rw [builtinType_eq_fast]; kernel_rfl
theorem entry_search : entryFor table "re.Pattern.search" = some Builtin.«re.Pattern.search» := entryFor_of_tree (by kernel_rfl)
theorem owner_pat : Manifest.owners.lookup (String.ofList ['n', 'r', 'e', 't', 't', 'a', 'P', '.', 'e', 'r'].reverse) = some Manifest.sig_re_Pattern := by kernel_rfl
theorem args_search (a b : Value) : argsOk "re.Pattern.search" ⟨[a, b], []⟩ := by
  unfold argsOk; rw [signature?_of (id := "re.Pattern.search") (n := ['h', 'c', 'r', 'a', 'e', 's']) (o := ['n', 'r', 'e', 't', 't', 'a', 'P', '.', 'e', 'r']) (by kernel_rfl) owner_pat]; kernel_rfl
theorem match_nobool : typeLookup (.type "re.Match") (Str.ofString "__bool__") = pure none := by rw [typeLookup_type, builtinLookup_eq_fast]; kernel_rfl
theorem match_nolen : typeLookup (.type "re.Match") (Str.ofString "__len__") = pure none := by rw [typeLookup_type, builtinLookup_eq_fast]; kernel_rfl

abbrev oPat (p : Value) (f : Int) (t : Tok) : Obj := { cls := .type "re.Pattern", data := .fields #[p, .int f t, .int 0 0, .none, .none, .ref 42, .int 0 0] }
abbrev codeVs : Array Value := #[.int 14 0, .int 8 0, .int 1 0, .int 2 0, .int 4294967295 0, .int 1 0, .int 1 0, .int 46 0, .int 0 0, .int 16 0, .int 46 0, .int 24 0, .int 9 0, .int 1 0, .int 4294967295 0, .int 13 0, .int 4 0, .int 8 0, .int 0 0, .int 0 0, .int 1 0, .int 6 0, .int 5 0, .int 1 0]
abbrev oCode : Obj := { cls := .type "tuple", data := .seq codeVs }
def ipv4 (x : Str) : Bool := anyHit x.cps (x.cps.size + 1) 0

theorem truthy_match {M : Model} {A : Around} {E : Value → Shared → Prop} {s : Shared} {a : Addr} {Q : Bool → Shared → Prop} (hT : s.TypeIs (.ref a) "re.Match") (h : Q true s) : wpAny M A (truthy (.ref a)) Q E s := by
  unfold truthy
  unfold callSpecial?
  refine wpAny_bind (wpAny_bind (wpAny_specialOf hT match_nobool (wpAny_pure ?_)))
  refine wpAny_bind (wpAny_specialOf hT match_nolen ?_)
  exact wpAny_pure h

section
variable {prog : Program} {w : World} {A : Around} {E : Value → Shared → Prop} {s : Shared} {x : Str} {t : Tok}
theorem call_search {Q : Value → Shared → Prop} {p : Value} {f : Int} {u : Tok} (h43 : s.heap.get? 43 = some (oPat p f u)) (h42 : s.heap.get? 42 = some oCode) (hsz : x.length ≤ 1000000)
    (h0 : ipv4 x = false → Q .none s) (h1 : ipv4 x = true → ∀ a h', Ext s.heap h' → ({ s with heap := h' } : Shared).TypeIs (.ref a) "re.Match" → Q (.ref a) { s with heap := h' }) :
    wpAny (model prog w) A (call (.builtin "re.Pattern.search") [.ref 43, .str x t]) Q E s := by
  refine wpAny_call_entry slot_search ⟨_, h43, rfl⟩ entry_search ?_ (args_search _ _)
  show wpAny (model prog w) A.in1 (do
    let t ← reTarget "re.Pattern.search" "search" ⟨[.ref 43, .str x t], []⟩
    reAnswer t (Sre.forSearch t.code t.text t.groups t.pos t.lim false)) _ E s
  have ht : ∀ (Q' : ReTarget → Shared → Prop) E', Q' ⟨.ref 43, .str x t, ipCode, x.cps, 0, 0, 0, x.cps.size⟩ s → wpAny (model prog w) A.in1 (reTarget "re.Pattern.search" "search" ⟨[.ref 43, .str x t], []⟩) Q' E' s := by
    intro Q' E' hq
    show wpAny (model prog w) A.in1 (do
      let fs ← fieldsOf (.ref 43)
      let (text, kind) ← reTextOf (.str x t)
      let want := reRawNat (fs.getD 6 .none)
      if want == 0 && kind == 1 then raiseError "TypeError" "cannot use a string pattern on a bytes-like object"
      if want == 1 && kind == 0 then raiseError "TypeError" "cannot use a bytes pattern on a string-like object"
      reNoCollectionInside (.str x t) kind
      let clip (i : Int) : Nat := min i.toNat text.size
      pure { pattern := .ref 43, string := .str x t, code := (← reRawItems (fs.getD 5 .none)).map (·.toNat), text, kind, groups := reRawNat (fs.getD 2 .none), pos := clip 0, lim := clip (2 ^ 63 - 1) : ReTarget }) Q' E' s
    refine wpAny_bind (wpAny_fieldsOf h43 rfl ?_)
    refine wpAny_bind (wpAny_pure ?_)
    refine wpAny_bind (wpAny_pure ?_)
    refine wpAny_bind ?_
    show wpAny (model prog w) A.in1 (do return ((← seqItems? (.ref 42)).getD #[]).map reRawOf) _ E' s
    refine wpAny_bind (wpAny_seqItems h42 rfl (wpAny_pure ?_))
    refine wpAny_pure ?_
    have e1 : min ((2 ^ 63 - 1 : Int)).toNat x.cps.size = x.cps.size := by
      have : x.cps.size ≤ 1000000 := hsz
      have h2 : ((2 ^ 63 - 1 : Int)).toNat = 9223372036854775807 := by decide
      rw [h2]; omega
    have e0 : min (0 : Int).toNat x.cps.size = 0 := by simp
    have e3 : Array.map (fun (i : Int) => i.toNat) (Array.map reRawOf ((some codeVs).getD #[])) = ipCode := by decide +kernel
    show Q' ⟨.ref 43, .str x t, Array.map (fun (i : Int) => i.toNat) (Array.map reRawOf ((some codeVs).getD #[])), x.cps, 0, 0, min (0 : Int).toNat x.cps.size, min ((2 ^ 63 - 1 : Int)).toNat x.cps.size⟩ s
    rw [e0, e1, e3]
    exact hq
  refine wpAny_bind (ht _ _ ?_)
  show wpAny (model prog w) A.in1 (reAnswer ⟨.ref 43, .str x t, ipCode, x.cps, 0, 0, 0, x.cps.size⟩ (Sre.forSearch ipCode x.cps 0 0 x.cps.size false)) _ E s
  obtain ⟨k, m, hk, ho, hm, g⟩ := search_go x.cps hsz
  unfold reAnswer
  refine wpAny_bind (wpAny_reRunToEnd (b := ipv4 x) g ho hk ?_)
  cases hb : ipv4 x with
  | false => exact wpAny_pure ⟨_, rfl, h0 hb⟩
  | true =>
    show wpAny (model prog w) A.in1 (do ret (← reNewMatch (.ref 43) (.str x t) 0 0 x.cps.size m)) _ E s
    refine wpAny_bind ?_
    show wpAny (model prog w) A.in1 (do newFields "re.Match" [.str x t, .ref 43, rawInt ((0 : Nat) : Int), rawInt (x.cps.size : Int), rawInt m.lastindex, ← newTuple [rawInt m.start, rawInt m.handed]]) _ E s
    refine wpAny_bind (wpAny_newObj_type ?_)
    refine wpAny_newObj_type ?_
    exact wpAny_pure ⟨_, rfl, h1 hb _ _ ((Ext.push _ _).trans (Ext.push _ _)) ⟨_, Heap.get?_push_size _ rfl, rfl⟩⟩
end

theorem Tr.search {c : Cx} {g : Str} {p apos pos : Pos} {arg : Expr} {x : Str} {pl : Sem Bool} {pv : Value} {f : Int} {u : Tok} (ok : EnvOk c.env) (hg : nsIn c.K mainGlobals g = some (some (.ref 43))) (hk : c.env.kindOf g = some .globalImplicit)
    (h43 : c.K.lookup 43 = some (oPat pv f u)) (h42 : c.K.lookup 42 = some oCode) (ha : Ev c arg (.str x)) (hsz : x.length ≤ 1000000) (hd : (g == ("__debug__" : Str)) = false)
    (hst : starEach [arg] c.env = [(false, eval arg c.env)])
    (he : eval (.Call (.Attribute (.Name g p) (Str.ofString "search") apos) [arg] [] pos) c.env = (do
      let ov ← eval (.Name g p) c.env
      standAt apos.atName
      let (f, first) ← holding [ov] (getMethod ov (Str.ofString "search") pl)
      callWith pos f first (backTo pos (starEach [arg] c.env)) []))
    (hv : ∀ whole : Sem Value, isTrue (.Call (.Attribute (.Name g p) (Str.ofString "search") apos) [arg] [] pos) c.env whole = (do let v ← whole; standAt (Expr.pos (.Call (.Attribute (.Name g p) (Str.ofString "search") apos) [arg] [] pos)); holding [v] (truthy v))) :
    Tr c (.Call (.Attribute (.Name g p) (Str.ofString "search") apos) [arg] [] pos) (ipv4 x) := by
  refine ⟨?_⟩
  intro s Q E sv h
  refine wpAny_isTrue_value ?_ (hv _)
  obtain ⟨mg, hmg, hm⟩ := sv.gl.g
  refine MethodCall_ (pl := pl) (Calls.Name_function_global ok.fn hk (Calls.loadGlobal_global (by rw [ok.gg]; exact hmg) (hm _ _ hg) ?_) hd) he
  have q43 := sv.gl.kin _ _ h43
  refine getMethod_builtin (T := "re.Pattern") ⟨_, q43, rfl⟩ plainAttrs_pat slot_search type_search (fun a e => by cases e; exact ⟨_, q43, rfl⟩) ?_
  have hany : (backTo pos (starEach [arg] c.env)).any (·.1) = false := by rw [hst]; rfl
  refine Calls.callWith_builtin hany (evalArgs_of _ (Evs.one ha hst) (by rw [hst]; rfl) pos _ _ _ sv fun vs h' tk e ps => ?_)
  obtain ⟨v, rfl, pv⟩ := ps.one
  obtain ⟨t, rfl⟩ := pv.strE
  refine call_search (e _ _ q43) (e _ _ (sv.gl.kin _ _ h42)) hsz (fun h0 => ?_) (fun h1 a h'' e' hT => ?_)
  · exact truthy_none (h0 ▸ h _ _ e)
  · exact truthy_match hT (h1 ▸ h _ _ (e.trans e'))
end Mine
end PdSPart
section PdGPart
open PySem PySem.W PyProof.Rows
namespace Mine
/-! built-ins on data -/
section
variable {prog : Program} {w : World} {A : Around} {E : Value → Shared → Prop} {s : Shared}
theorem nested_str {k : Int} {tk : Tok} {Q : Fin → Shared → Prop} (hq : Q (.done (.ret (.bool true))) s) : wpAny (model prog w) A (Builtin.«issubclass.nested» ⟨[.type "str", .type "str", .int k tk], []⟩) Q E s := by
  have hm := F.isi_meta_str
  have hself := F.sub_str_str
  repeat (any_goals (first | assumption | (rw [hm]) | (rw [hself]) | wp_step))
theorem sub_tuple_self : isSubtype (.type "tuple") (.type "tuple") = pure true := by rw [isSubtype_type]; kernel_rfl
theorem nested_tup {a : Addr} {v : Value} {k : Int} {tk : Tok} {Q : Fin → Shared → Prop} (ht : IsTup s.heap a #[.type "str", v]) (hk : k = 0) (hq : Q (.done (.ret (.bool true))) s) : wpAny (model prog w) A (Builtin.«issubclass.nested» ⟨[.type "str", .ref a, .int k tk], []⟩) Q E s := by
  subst hk
  obtain ⟨o, ho, hc, n, hd⟩ := ht
  have hT : s.TypeIs (.ref a) "tuple" := ⟨o, ho, hc⟩
  have hself := sub_tuple_self
  unfold Builtin.«issubclass.nested»
  refine wpAny_bind (wpAny_typeOf hT ?_)
  refine wpAny_bind ?_
  unfold Builtin.Builtins.unionMembers
  refine wpAny_bind (wpAny_typeOf hT (wpAny_pure ?_))
  refine wpAny_bind (wpAny_isInstance hT hself ?_)
  dsimp only [if_true]
  rw [if_pos rfl, if_neg (by decide)]
  refine wpAny_bind (wpAny_seqItems ho hd ?_)
  rw [Option.getD_some, ← Array.forIn_toList, List.forIn_cons]
  refine wpAny_bind (wpAny_bind (wpAny_bind ?_))
  refine Calls.call_function_entry (by decide +kernel) (by decide +kernel) F.entry_issubclass_nested (by unfold argsOk; kernel_rfl) (nested_str ⟨_, rfl, ?_⟩)
  refine wpAny_bind (wpAny_truthy_bool ?_)
  rw [if_pos rfl]
  exact wpAny_bind (wpAny_pure (wpAny_pure (wpAny_pure (wpAny_pure hq))))
theorem call_issub {a : Addr} {v : Value} {Q : Value → Shared → Prop} (ht : IsTup s.heap a #[.type "str", v]) (hq : Q (.bool true) s) : wpAny (model prog w) A (call (.builtin "issubclass") [.type "str", .ref a]) Q E s :=
  call_issubclass (S := fun _ R s => IsTup s.heap a #[.type "str", v] ∧ R (.ok (.ret (.bool true))) s) (fun _ _ _ _ _ hs => issubclass_outer (nested_tup hs.1 rfl hs.2)) ⟨ht, hq⟩
end

section
variable {c : Cx}
theorem Bi.type {x : Str} : Bi c (.type "type") [.str x] (.typ "str") := by
  refine ⟨?_⟩
  intro s vs Q E sv r k; obtain ⟨v, rfl, p⟩ := r.one; obtain ⟨t, rfl⟩ := p.strE
  exact call_type_of (typeIs_str _ _ _) (by decide) (k _ _ s.toks (Ext.refl _) (.typ _))
theorem Bi.issub : Bi c (.builtin "issubclass") [.typ "str", .tup [.typ "str", .typ "bytes"]] (.bool true) := by
  refine ⟨?_⟩
  intro s vs Q E sv r k; obtain ⟨v, v', rfl, p, q⟩ := r.two
  rw [p.typE]
  obtain ⟨a, ws, rfl, ha, ht, rs⟩ := q.tupE
  obtain ⟨u, u', e, pu, pu'⟩ := rs.two
  have e' : ws = #[.type "str", .type "bytes"] := by rw [pu.typE, pu'.typE] at e; rw [← Array.toList_inj, e]
  subst e'
  exact call_issub ht (k _ _ s.toks (Ext.refl _) (.bool _))
theorem Bi.isbytes {x : Str} : Bi c (.builtin "isinstance") [.str x, .typ "bytes"] (.bool false) := by
  refine ⟨?_⟩
  intro s vs Q E sv r k; obtain ⟨v, v', rfl, p, q⟩ := r.two; obtain ⟨t, rfl⟩ := p.strE
  rw [q.typE]
  exact IsiPair.str_bytes (k _ _ _ (Ext.refl _) (.bool _))
theorem Bi.lenS {x : Str} (h : x.length ≤ 100000) : Bi c (.builtin "len") [.str x] (.int x.length) := by
  refine ⟨?_⟩
  intro s vs Q E sv r k; obtain ⟨v, rfl, p⟩ := r.one; obtain ⟨t, rfl⟩ := p.strE
  exact P.len_str (by omega) (k _ _ _ (Ext.refl _) (.int _ _))
theorem Bi.lenL {ds : List D} (h : ds.length ≤ 100000) : Bi c (.builtin "len") [.list ds] (.int ds.length) := by
  refine ⟨?_⟩
  intro s vs Q E sv r k; obtain ⟨v, rfl, p⟩ := r.one
  obtain ⟨a, ws, rfl, ha, hl, rs⟩ := p.listE
  have e : ws.size = ds.length := by simpa using rs.length
  exact Calls.call_len_list hl (by rw [e]; omega) (by rw [e]; exact k _ _ _ (Ext.refl _) (.int _ _))
theorem Bi.abs {i : Int} : Bi c (.builtin "abs") [.int i] (.int (i.natAbs : Int)) := by
  refine ⟨?_⟩
  intro s vs Q E sv r k; obtain ⟨v, rfl, p⟩ := r.one; obtain ⟨t, rfl⟩ := p.intE
  have e : (if i < 0 then -i else i) = (i.natAbs : Int) := by split <;> omega
  exact call_abs_int (fun u tk => by rw [e]; exact k _ _ _ (Ext.refl _) (.int _ _))
theorem Ev.tuple {es : List Expr} {ds : List D} {k : Nat} {pos : Pos} (h : Evs c es ds) (hn : ds.length ≤ 100000) : Ev c (.Tuple es k pos) (.tup ds) := by
  refine ⟨?_⟩
  intro s Q E sv hq
  refine wpAny_Tuple (h.run pos s _ _ sv fun vs h' tk x ps => ⟨sz _ (by rw [ps.length]; exact hn), ?_⟩)
  refine hq _ _ tk (x.trans (Ext.push _ _)) (Rep.ofTup (vs := vs.toArray) ((sv.ext x).fresh (Nat.le_refl _)) ⟨_, Heap.get?_push_size _ rfl, rfl, _, rfl⟩ ?_)
  exact ps.mono (hide_ext (Ext.push _ _))
theorem Ev.list {es : List Expr} {ds : List D} {pos : Pos} (h : Evs c es ds) (hn : ds.length ≤ 100000) : Ev c (.List es pos) (.list ds) := by
  refine ⟨?_⟩
  intro s Q E sv hq
  refine wpAny_List (h.run pos s _ _ sv fun vs h' tk x ps => ⟨sz _ (by rw [ps.length]; exact hn), ?_⟩)
  refine hq _ _ tk (x.trans (Ext.push _ _)) (Rep.ofList (vs := vs.toArray) ((sv.ext x).fresh (Nat.le_refl _)) ⟨_, Heap.get?_push_size _ rfl, rfl, _, rfl⟩ ?_)
  exact ps.mono (hide_ext (Ext.push _ _))
end
end Mine
end PdGPart
section PdHPart
open PySem PySem.W PyProof.Rows
namespace Mine
/-! comprehensions on data -/
structure Tests (c : Cx) (ifs : List Expr) (b : Bool) : Prop where
  run : ∀ (s : Shared) (Q : Bool → Shared → Prop) (E : Value → Shared → Prop), Sv c s.heap →
    (∀ h' tk, Ext s.heap h' → Q b { s with heap := h', toks := tk }) →
    wpAny c.M c.A (forIn ifs true fun e r => if r = true then do let ok ← isTrue e c.env (eval e c.env); pure (ForInStep.yield ok) else pure (ForInStep.yield r)) Q E s
theorem Tests.nil {c : Cx} : Tests c [] true := ⟨fun s _ _ _ h => wpAny_tests_nil (h s.heap s.toks (Ext.refl _))⟩
theorem Tests.one {c : Cx} {e : Expr} {b : Bool} (h : Tr c e b) : Tests c [e] b := ⟨fun s Q E sv k => wpAny_tests_one (h.run s Q E sv k)⟩

/-- the frame of a comprehension's turn -/
abbrev cxC (c : Cx) (scope : Scope) (cl : List (Str × Addr)) (C Dd : Addr) (wr : List Addr) (rho : Str → Option D) : Cx :=
  { prog := c.prog, w := c.w, A := c.A, K := c.K, env := compEnvC scope cl C c.env, mu := (C :: Dd :: wr) ++ c.mu, rho := rho, ow := none }

/-- what the turn reads of the frame around -/
def Free (c : Cx) (scope : Scope) (cl : List (Str × Addr)) (rf : Str → Option D) : Prop :=
  ∀ y d, rf y = some d → c.rho y = some d ∧ (∀ C, (compEnvC scope cl C c.env).kindOf y = some .cell ∨ (compEnvC scope cl C c.env).kindOf y = some .free) ∧ (c.env.kindOf y = some .cell ∨ c.env.kindOf y = some .free) ∧ cl.lookup y = c.env.cells.lookup y

section
variable {c : Cx} {E : Value → Shared → Prop}

theorem comp_sv {scope : Scope} {cl : List (Str × Addr)} {C Dd : Addr} {wr : List Addr} {rf : Str → Option D} {x : Str} {v : Value} {d : D} {hb h : Heap} {m : Str → Option Value} (sv : Sv c hb) (e : Ext hb h)
    (hfree : Free c scope cl rf) (hx : ∀ C, (compEnvC scope cl C c.env).kindOf x = some .local) (hn : h.Ns C m) (hm : m x = some v) (hnew : ∀ b ∈ C :: Dd :: wr, hb.get? b = none) (hpres : ∀ b ∈ C :: Dd :: wr, (h.get? b).isSome = true)
    (hrep : Rep (hide c.mu hb) v d) : Sv (cxC c scope cl C Dd wr (fun y => if y = x then some d else rf y)) h where
  gl := sv.gl.ext e
  bound := fun b hb' => by
    rcases List.mem_append.mp hb' with q | q
    · exact hpres b q
    · obtain ⟨o, ho⟩ := Option.isSome_iff_exists.mp (sv.bound b q)
      rw [e b o ho]; rfl
  rd := fun y d' hy => by
    have hy' : (if y = x then some d else rf y) = some d' := hy
    by_cases hyx : y = x
    · subst hyx
      simp at hy'; subst hy'
      exact ⟨v, .inl ⟨hx C, m, hn, hm⟩, hrep.mono (hide_new hnew e)⟩
    · rw [if_neg hyx] at hy'
      obtain ⟨h1, h2, h3, h4⟩ := hfree y d' hy'
      obtain ⟨u, r, p⟩ := sv.rd y d' h1
      refine ⟨u, ?_, p.mono (hide_new hnew e)⟩
      rcases r with ⟨hk, _⟩ | ⟨hk, a, ha, hcl⟩
      · rw [hk] at h3; rcases h3 with h3 | h3 <;> cases h3
      · exact .inr ⟨h2 C, a, h4.trans ha, hcl.keeps e⟩
  own := fun _ _ _ h => by cases h
  pin := fun _ h => by cases h
  dat := fun _ _ h => h.elim

theorem comp_core {elt iter : Expr} {x : Str} {px : Pos} {ifs : List Expr} {scope : Scope} {cl : List (Str × Addr)} {pos : Pos} {s₂ : Shared} {I : Addr} {fp wr : List Addr} {n : Nat} {P : Nat → Value → Prop}
    {Stt : Nat → Heap → Prop} {hb : Heap} {src : List D} {rf : Str → Option D} (W : Walks c.prog c.w c.A I fp wr n P Stt) (p : D → Bool) (F : D → D) {RR : Value → Addr → Result → Shared → Prop}
    (hnl : n = src.length) (hsz : n ≤ 100000) (sv : Sv c hb) (e2 : Ext hb s₂.heap) (hwb : ∀ b ∈ wr, hb.get? b = none) (hpr : ∀ i h, Stt i h → ∀ b ∈ wr, (h.get? b).isSome = true)
    (hP : ∀ i v, P i v → ∃ d, src[i]? = some d ∧ Rep (hide c.mu hb) v d)
    (hcell : ∀ y ∈ scope.names, y.2 ≠ .cell) (hkind : scope.kind = .function) (hx : scope.names.lookup x = some .local) (hst : Stt 0 s₂.heap) (hfp : ∀ b ∈ fp, b < s₂.heap.objs.size)
    (hfree : Free c scope cl rf)
    (htests : ∀ C Dd d, d ∈ src → Tests (cxC c scope cl C Dd wr (fun y => if y = x then some d else rf y)) ifs (p d))
    (helt : ∀ C Dd d, d ∈ src → p d = true → Ev (cxC c scope cl C Dd wr (fun y => if y = x then some d else rf y)) elt (F d))
    (hRR : ∀ Dd C h' tk m' ys, hb.get? Dd = none → hb.get? C = none → Dd ≠ C → Dd ∉ c.mu → h'.Ns C m' → h'.IsList Dd ys → Reps (hide ((C :: Dd :: wr) ++ c.mu) h') ys.toList ((src.filter p).map F) →
      Ext hb h' → RR (.ref Dd) C (.ok .next) { s₂ with heap := h', toks := tk }) :
    wpAny c.M c.A (newList []) (fun acc s₃ => wpAny c.M c.A (newFunctionEnv scope c.env.globals cl [] c.env.qual none .none (some c.env)) (fun cenv s₄ =>
      codeAny c.M c.A (.compStart (.ListComp elt [⟨.Name x px, iter, ifs, 0⟩] scope pos) 0 (.ref I) acc { cenv with scope := relabel scope c.env }) (RR acc cenv.locals) s₄) E s₃) E s₂ := by
  refine wpAny_newObj_type (wpAny_newFunctionEnv hcell (by intro y hy; simp at hy) (fun h₁ hns₁ hsb₁ => ?_) hkind)
  dsimp only at hns₁ hsb₁ ⊢
  generalize hH2 : s₂.heap.push { cls := .type "list", dict := none, data := .seq ([] : List Value).toArray } = H2 at hns₁ hsb₁ ⊢
  have hC : H2.objs.size = s₂.heap.objs.size + 1 := by rw [← hH2, Heap.size_push]
  have hDC : s₂.heap.objs.size ≠ H2.objs.size := by rw [hC]; exact Nat.ne_of_lt (Nat.lt_succ_self _)
  have below : ∀ b, b < s₂.heap.objs.size → b ≠ H2.objs.size ∧ b ≠ s₂.heap.objs.size := fun b hb => ⟨by rw [hC]; exact Nat.ne_of_lt (Nat.lt_succ_of_lt hb), Nat.ne_of_lt hb⟩
  have hDf : s₂.heap.objs.size ∉ fp := fun hm => Nat.lt_irrefl _ (hfp _ hm)
  have hCf : H2.objs.size ∉ fp := fun hm => by have := hfp _ hm; rw [hC] at this; exact Nat.lt_irrefl _ (Nat.lt_of_succ_lt this)
  have old : ∀ b o, s₂.heap.get? b = some o → h₁.get? b = some o := fun b o e => hsb₁.extBut b o (below b (Heap.lt_size e)).1 (Heap.get?_push_of_some _ (hH2 ▸ Heap.get?_push_of_some _ e))
  have hacc : h₁.IsList s₂.heap.objs.size #[] := ⟨_, hsb₁.extBut _ _ hDC (Heap.get?_push_of_some _ (hH2 ▸ Heap.get?_push_size _ rfl)), rfl, _, rfl⟩
  have hst₁ : Stt 0 h₁ := W.frame _ _ _ hst fun b _ o e => old b o e
  have freshb : ∀ a, s₂.heap.objs.size ≤ a → hb.get? a = none := fun a ha => by
    cases e : hb.get? a with
    | none => rfl
    | some o' => exact absurd (Heap.lt_size (e2 a o' e)) (Nat.not_lt.mpr ha)
  generalize hDd : s₂.heap.objs.size = Dd at *
  generalize hCC : H2.objs.size = C at *
  have hbC : hb.get? C = none := freshb C (by omega)
  have hbD : hb.get? Dd = none := freshb Dd (Nat.le_refl _)
  have hnew : ∀ b ∈ C :: Dd :: wr, hb.get? b = none := by
    intro b hq
    rcases List.mem_cons.mp hq with rfl | hq
    · exact hbC
    · rcases List.mem_cons.mp hq with rfl | hq
      · exact hbD
      · exact hwb b hq
  have hDmu : Dd ∉ c.mu := fun q => by
    obtain ⟨o, ho⟩ := Option.isSome_iff_exists.mp (sv.bound Dd q)
    rw [hbD] at ho; cases ho
  have hDw : Dd ∉ wr := fun q => hDf (W.sub _ q)
  have hCw : C ∉ wr := fun q => hCf (W.sub _ q)
  have hxl : ∀ C, (compEnvC scope cl C c.env).kindOf x = some .local := fun C => lookup_relabel_local hx
  have loop : ∀ s₃ : Shared, s₃ = { s₂ with heap := h₁, toks := s₂.toks + ([] : List (Str × Value)).length } →
      codeAny c.M c.A (.compLoop (.ListComp elt [⟨.Name x px, iter, ifs, 0⟩] scope pos) 0 (.ref I) (.ref Dd) (compEnvC scope cl C c.env)) (RR (.ref Dd) C) s₃ := by
    rintro s₃ rfl
    refine codeAny_compLoop_tests
      (fun k s' => ∃ h' tk m' ys i, s' = { s₂ with heap := h', toks := tk } ∧ Stt i h' ∧ h'.IsList Dd ys ∧ h'.Ns C m' ∧ Reps (hide ((C :: Dd :: wr) ++ c.mu) h') ys.toList (((src.take i).filter p).map F) ∧ i ≤ n ∧ k = n + 1 - i ∧ Ext hb h') ?_ (n + 1)
      ⟨h₁, _, _, #[], 0, rfl, hst₁, hacc, hns₁, by simpa using Reps.nil, Nat.zero_le _, rfl, e2.trans old⟩
    rintro k s' ⟨H, tk, m', ys, i, rfl, hst', hacc', hn', hR, hi, rfl, hE⟩
    by_cases hin : i < n
    · refine W.item i _ _ _ hin hst' fun v h₂ tk₂ hPv hst₂ hk₂ => ?_
      obtain ⟨d, hd, hrep⟩ := hP i v hPv
      have hmem : d ∈ src := List.mem_of_getElem? hd
      have hn₂ : h₂.Ns C m' := hn'.at' fun o e => hk₂ _ o hCw e
      have hacc₂ : h₂.IsList Dd ys := hacc'.at fun o e => hk₂ _ o hDw e
      have hE₂ : Ext hb h₂ := fun b o e => hk₂ b o (fun q => by rw [hwb b q] at e; cases e) (hE b o e)
      refine wpAny_assign_Name (wpAny_storeName_local (hxl C) hn₂ (fun h₃ hn₃ hs₃ => ?_) (by simp [compEnvC, relabel, hkind]))
      have hst₃ : Stt (i + 1) h₃ := W.frame _ _ _ hst₂ fun b hb' o e => hs₃.extBut b o (fun q => hCf ((show b = C from q) ▸ hb')) e
      have hacc₃ : h₃.IsList Dd ys := hacc₂.extBut hs₃.extBut hDC
      have hE₃ : Ext hb h₃ := fun b o e => hs₃.extBut b o (fun q => by have q' : b = C := q; rw [q', hbC] at e; cases e) (hE₂ b o e)
      have pres : ∀ h, Stt (i + 1) h → h.IsList Dd ys → ∀ m, h.Ns C m → ∀ b ∈ C :: Dd :: wr, (h.get? b).isSome = true := by
        intro h q1 q2 m q3 b hq
        rcases List.mem_cons.mp hq with rfl | hq
        · obtain ⟨o, _, _, ho, _⟩ := q3; rw [ho]; rfl
        · rcases List.mem_cons.mp hq with rfl | hq
          · obtain ⟨o, ho, _⟩ := q2; rw [ho]; rfl
          · exact hpr _ _ q1 b hq
      have sv₃ : Sv (cxC c scope cl C Dd wr (fun y => if y = x then some d else rf y)) h₃ := comp_sv sv hE₃ hfree hxl hn₃ (by simp) hnew (pres _ hst₃ hacc₃ _ hn₃) hrep
      have hR₃ : Reps (hide ((C :: Dd :: wr) ++ c.mu) h₃) ys.toList (((src.take i).filter p).map F) := by
        refine (hR.mono fun b o e => ?_).mono (hide_sameBut (a := C) (List.mem_append_left _ (.head _)) hs₃)
        obtain ⟨q1, q2⟩ := hide_some e
        exact hide_of q1 (hk₂ b o (fun q => q1 (List.mem_append_left _ (.tail _ (.tail _ q)))) q2)
      refine (htests C Dd d hmem).run _ _ _ sv₃ fun h₄ tk₄ e₄ => ?_
      have hst₄ : Stt (i + 1) h₄ := W.frame _ _ _ hst₃ fun b _ o e => e₄ b o e
      have take1 : src.take (i + 1) = src.take i ++ [d] := by rw [List.take_add_one, hd]; rfl
      cases hpd : p d with
      | false =>
        simp only [Bool.false_eq_true, if_false]
        refine ⟨n + 1 - (i + 1), by omega, h₄, tk₄, _, ys, i + 1, rfl, hst₄, hacc₃.at fun o e => e₄ _ o e, hn₃.keeps e₄, ?_, hin, rfl, hE₃.trans e₄⟩
        rw [take1, List.filter_append, List.filter_cons, hpd]
        simpa using hR₃.mono (hide_ext e₄)
      | true =>
        simp only [if_true]
        refine (helt C Dd d hmem hpd).run _ _ _ (sv₃.ext e₄) fun y h₅ tk₅ e₅ py => ?_
        have hacc₅ : h₅.IsList Dd ys := (hacc₃.at fun o e => e₄ _ o e).at fun o e => e₅ _ o e
        have hys : ys.size ≤ sizeLine := by
          refine sz _ ?_
          have e1 := hR.length
          rw [List.length_map] at e1
          have e3 : ((src.take i).filter p).length ≤ (src.take i).length := List.length_filter_le _ _
          have e4 : (src.take i).length ≤ i := by rw [List.length_take]; omega
          have e5 : ys.toList.length = ys.size := by simp
          omega
        refine wpAny_list_append (hsz := hys) hacc₅ fun h₆ hl₆ hs₆ => ?_
        have hDm : Dd ∈ (C :: Dd :: wr) ++ c.mu := List.mem_append_left _ (.tail _ (.head _))
        refine ⟨n + 1 - (i + 1), by omega, h₆, tk₅, _, ys.push y, i + 1, rfl, W.frame _ _ _ (W.frame _ _ _ hst₄ fun b _ o e => e₅ b o e) fun b hb' o e => hs₆.extBut b o (fun q => hDf (q ▸ hb')) e,
          hl₆, ((hn₃.keeps e₄).keeps e₅).sameBut hs₆ (Ne.symm hDC), ?_, hin, rfl, fun b o e => hs₆.extBut b o (fun q => by rw [q, hbD] at e; cases e) (e₅ b o (e₄ b o (hE₃ b o e)))⟩
        rw [take1, List.filter_append, List.filter_cons, hpd]
        have q := ((hR₃.mono (hide_ext (e₄.trans e₅))).append (.cons py .nil)).mono (hide_sameBut hDm hs₆)
        simpa using q
    · have hie : i = n := by omega
      subst hie
      refine W.done _ _ _ hst' fun h₂ tk₂ hk₂ => ?_
      refine hRR Dd C h₂ tk₂ m' ys hbD hbC hDC hDmu (hn'.at' fun o e => hk₂ _ o hCw e) (hacc'.at fun o e => hk₂ _ o hDw e) ?_ (fun b o e => hk₂ b o (fun q => by rw [hwb b q] at e; cases e) (hE b o e))
      rw [hnl, List.take_length] at hR
      refine hR.mono fun b o e => ?_
      obtain ⟨q1, q2⟩ := hide_some e
      exact hide_of q1 (hk₂ b o (fun q => q1 (List.mem_append_left _ (.tail _ (.tail _ q)))) q2)
  exact codeAny_compStart_list (loop _ rfl) (W.self 0 _ _ _ hst₁ (loop _ rfl))

/-- what a for or a comprehension walks over -/
structure Itr (c : Cx) (d0 : D) (src : List D) : Prop where
  run : ∀ (s : Shared) (v : Value) (Q : Value → Shared → Prop) (E : Value → Shared → Prop), Sv c s.heap → Rep (hide c.mu s.heap) v d0 →
    (∀ (I : Addr) (fp : List Addr) (P : Nat → Value → Prop) (Stt : Nat → Heap → Prop) (h' : Heap) (tk : Nat), Walks c.prog c.w c.A I fp [I] src.length P Stt → Ext s.heap h' → s.heap.get? I = none →
      (∀ i h, Stt i h → (h.get? I).isSome = true) → (∀ i v, P i v → ∃ d, src[i]? = some d ∧ Rep (hide c.mu s.heap) v d) → Stt 0 h' → (∀ b ∈ fp, b < h'.objs.size ∧ b ∉ c.mu) → Q (.ref I) { s with heap := h', toks := tk }) →
    wpAny c.M c.A (pyIter v) Q E s
theorem none_at_size (h : Heap) : h.get? h.objs.size = none := by
  cases e : h.get? h.objs.size with
  | none => rfl
  | some o => exact absurd (Heap.lt_size e) (Nat.lt_irrefl _)
theorem reps_at_some {P : PH} {items : Array Value} {src : List D} (rs : Reps P items.toList src) (i : Nat) (v : Value) (hv : items[i]? = some v) : ∃ d, src[i]? = some d ∧ Rep P v d := by
  have hv' : items.toList[i]? = some v := by simpa using hv
  have hlen := rs.length
  have hi' : i < src.length := by rw [← hlen]; exact (List.getElem?_eq_some_iff.mp hv').1
  obtain ⟨u, hu, pu⟩ := rs.get (List.getElem?_eq_getElem hi')
  rw [hu] at hv'; cases hv'
  exact ⟨_, List.getElem?_eq_getElem hi', pu⟩
theorem Itr.list {src : List D} (hh : c.A.handled = none) : Itr c (.list src) src := by
  refine ⟨fun s v Q E sv pv hq => ?_⟩
  obtain ⟨ax, items, rfl, hax, hl, rs⟩ := pv.listE
  have hlt : ax < s.heap.objs.size := by obtain ⟨o, ho, _⟩ := hl; exact Heap.lt_size ho
  have hn : items.size = src.length := by simpa using rs.length
  refine wpAny_pyIter_list hl (hq s.heap.objs.size [s.heap.objs.size, ax] _ _ _ s.toks (hn ▸ Walks.list hh s.heap.objs.size ax (Nat.ne_of_lt hlt) items) (Ext.push _ _) (none_at_size _) ?_ ?_ ?_ ?_)
  · intro i h hst; obtain ⟨o, ho, _⟩ := hst.1; rw [ho]; rfl
  · exact reps_at_some rs
  · exact ⟨⟨_, Heap.get?_push_size _ rfl, rfl, rfl⟩, hl.push _⟩
  · intro b hb
    rw [Heap.size_push]
    rcases List.mem_cons.mp hb with rfl | hb
    · exact ⟨Nat.lt_succ_self _, sv.fresh (Nat.le_refl _)⟩
    · rcases List.mem_singleton.mp hb with rfl; exact ⟨Nat.lt_succ_of_lt hlt, hax⟩
theorem Itr.tup {src : List D} (hh : c.A.handled = none) : Itr c (.tup src) src := by
  refine ⟨fun s v Q E sv pv hq => ?_⟩
  obtain ⟨ax, items, rfl, hax, hl, rs⟩ := pv.tupE
  have hl' : s.heap.IsTuple ax items := hl
  have hlt : ax < s.heap.objs.size := by obtain ⟨o, ho, _⟩ := hl'; exact Heap.lt_size ho
  have hn : items.size = src.length := by simpa using rs.length
  refine wpAny_pyIter_tuple hl' (hq s.heap.objs.size [s.heap.objs.size, ax] _ _ _ s.toks (hn ▸ Walks.tuple hh s.heap.objs.size ax (Nat.ne_of_lt hlt) items) (Ext.push _ _) (none_at_size _) ?_ ?_ ?_ ?_)
  · intro i h hst; obtain ⟨o, ho, _⟩ := hst.1; rw [ho]; rfl
  · exact reps_at_some rs
  · exact ⟨⟨_, Heap.get?_push_size _ rfl, rfl, rfl⟩, hl'.push _⟩
  · intro b hb
    rw [Heap.size_push]
    rcases List.mem_cons.mp hb with rfl | hb
    · exact ⟨Nat.lt_succ_self _, sv.fresh (Nat.le_refl _)⟩
    · rcases List.mem_singleton.mp hb with rfl; exact ⟨Nat.lt_succ_of_lt hlt, hax⟩
def rngL (a c : Int) (n : Nat) : List D := (List.range n).map fun (i : Nat) => D.int (a + (i : Int) * c)
theorem Itr.rng {a b st : Int} {n : Nat} (hh : c.A.handled = none) (hsmall : Builtin.Range.small a b st = true) (hn : Builtin.Range.rangeSize a b st = (n : Int)) : Itr c (.rng a b st) (rngL a st n) := by
  refine ⟨fun s v Q E sv pv hq => ?_⟩
  obtain ⟨r, t, u, w, rfl, hr, hR⟩ := pv.rngE
  have hlen : (rngL a st n).length = n := by simp [rngL]
  have W : Walks c.prog c.w c.A s.heap.objs.size [s.heap.objs.size] [s.heap.objs.size] (rngL a st n).length (fun i v => i < n ∧ ∃ t, v = .int (a + i * st) t) (fun i h => IsRangeIter h s.heap.objs.size (a + (i : Nat) * st) ((n : Int) - (i : Nat)) st) := by
    rw [hlen]; exact (Walks.range hh s.heap.objs.size a st n).bound
  refine wpAny_pyIter_range hR hsmall (hq s.heap.objs.size [s.heap.objs.size] _ _ _ s.toks W (Ext.push _ _) (none_at_size _) ?_ ?_ ?_ ?_)
  · intro i h hst; rw [hst]; rfl
  · rintro i v ⟨hi, t, rfl⟩
    refine ⟨.int (a + (i : Int) * st), ?_, .int _ _⟩
    unfold rngL
    rw [List.getElem?_map, List.getElem?_range hi]; rfl
  · show IsRangeIter _ _ _ _ _
    have := Heap.get?_push_size s.heap (o := { cls := .type "range_iterator", data := .fields #[rawInt a, rawInt (Builtin.Range.rangeSize a b st), rawInt st] }) rfl
    rw [hn] at this ⊢
    simpa using this
  · intro b hb
    rw [Heap.size_push]
    rcases List.mem_singleton.mp hb with rfl
    exact ⟨Nat.lt_succ_self _, sv.fresh (Nat.le_refl _)⟩

/-- a list comprehension over a list -/
theorem Ev.comp {elt iter : Expr} {x : Str} {px : Pos} {ifs : List Expr} {scope : Scope} {cl : List (Str × Addr)} {pos : Pos} {d0 : D} {src : List D} {rf : Str → Option D} (p : D → Bool) (F : D → D) 
    (hclos : closureFor scope c.env = pure cl) (hcell : ∀ y ∈ scope.names, y.2 ≠ .cell) (hkind : scope.kind = .function)
    (hnames : ∀ y ∈ scope.names, y.2 = .local → scope.names.lookup y.1 = some .local) (hx : scope.names.lookup x = some .local)
    (hi : Ev c iter d0) (hit : Itr c d0 src) (hsz : src.length ≤ 100000) (hfree : Free c scope cl rf)
    (htests : ∀ C Dd I d, d ∈ src → Tests (cxC c scope cl C Dd [I] (fun y => if y = x then some d else rf y)) ifs (p d))
    (helt : ∀ C Dd I d, d ∈ src → p d = true → Ev (cxC c scope cl C Dd [I] (fun y => if y = x then some d else rf y)) elt (F d))
    (hs : ∀ v, foldedSetIterable iter c.env v = pure v) :
    Ev c (.ListComp elt [⟨.Name x px, iter, ifs, 0⟩] scope pos) (.list ((src.filter p).map F)) := by
  refine ⟨?_⟩
  intro s Q E sv hq
  rw [eval_ListComp]
  refine wpAny_comprehension_free (use := none) rfl hs hclos hkind hnames (hi.run s _ _ sv fun v h₁ tk₁ e₁ pv => ?_)
  have sv₁ := sv.ext e₁
  refine hit.run _ v _ _ sv₁ pv fun I fp P Stt h₂ tk₂ W e₂ hI hpr hP hst hfp => ?_
  refine comp_core (RR := fun acc C => compPost c.M c.A E none Q acc C) (hb := h₁) (src := src) (rf := rf) W p F rfl hsz sv₁ e₂ ?_ ?_ hP hcell hkind hx hst (fun b hb => (hfp b hb).1) hfree
    (fun C Dd d hd => htests C Dd _ d hd) (fun C Dd d hd hp => helt C Dd _ d hd hp) ?_
  · intro b hb; rcases List.mem_singleton.mp hb with rfl; exact hI
  · intro i h hst b hb; rcases List.mem_singleton.mp hb with rfl; exact hpr i h hst
  · intro Dd C h' tk m' ys hD hC hDC hDmu hn hl' hR hE
    refine ⟨m', hn, fun h'' hs'' => ?_⟩
    refine hq _ h'' tk (e₁.trans fun b o e => hs''.extBut b o (fun q => by rw [q, hC] at e; cases e) (hE b o e)) (Rep.ofList (vs := ys) hDmu (hl'.extBut hs''.extBut hDC) ?_)
    refine (hR.mono (hide_sameBut (a := C) (List.mem_append_left _ (.head _)) hs'')).mono (hide_sub fun b hb => List.mem_append_right _ hb)

theorem hide_extBut {mu : List Addr} {a : Addr} {h h' : Heap} (ha : a ∈ mu) (x : ∀ b o, b ≠ a → h.get? b = some o → h'.get? b = some o) : Le (hide mu h) (hide mu h') := fun b o e => by
  obtain ⟨h1, h2⟩ := hide_some e
  exact hide_of h1 (x b o (fun q => h1 (q ▸ ha)) h2)
theorem St.moved2 {s₀ s : Shared} {x : Str} {d : D} {v : Value} {s' : Shared} {b : Addr} (st : St c s₀ s) (hb : b ∈ c.mu) (fr : ∃ m cm, InCallC s₀ c.env.locals m c.env.cells cm s') (hs : ∀ a o, a ≠ b → s.heap.get? a = some o → s'.heap.get? a = some o)
    (hx : Rd c.env s'.heap x v) (hrep : Rep (hide c.mu s'.heap) v d) (hrd : ∀ y u, y ≠ x → Rd c.env s.heap y u → Rd c.env s'.heap y u) (hbo : ∀ y r ds, c.ow = some (y, r, ds) → y ≠ x ∧ r ≠ b)
    (hpb : (s'.heap.get? b).isSome = true) (hpin : ∀ p ∈ c.pin, p.1 ≠ b) (gl : Gl c.K s'.heap) : St (c.set x d) s₀ s' where
  fr := fr
  ok := st.ok
  lmu := st.lmu
  cmu := st.cmu
  omu := st.omu
  pmu := st.pmu
  sv := {
    gl := gl
    bound := fun a ha => by
      by_cases e : a = b
      · subst e; exact hpb
      · obtain ⟨o, ho⟩ := Option.isSome_iff_exists.mp (st.sv.bound a ha)
        rw [hs a o e ho]; rfl
    rd := fun y e hy => by
      have hy' : (if y = x then some d else c.rho y) = some e := hy
      by_cases hyx : y = x
      · subst hyx; simp at hy'; subst hy'; exact ⟨v, hx, hrep⟩
      · rw [if_neg hyx] at hy'
        obtain ⟨u, r, p⟩ := st.sv.rd y e hy'
        exact ⟨u, hrd y u hyx r, p.mono (hide_extBut hb hs)⟩
    own := fun y r ds hy => by
      obtain ⟨a, vs, n, g, q⟩ := st.sv.own y r ds hy
      obtain ⟨h1, h2⟩ := hbo y r ds hy
      exact ⟨hrd y _ h1 a, vs, n, hs r _ h2 g, q.mono (hide_extBut hb hs)⟩
    pin := fun p hp => hs _ _ (hpin p hp) (st.sv.pin p hp)
    dat := fun v d q => (st.sv.dat v d q).mono (hide_extBut hb hs) }

/-- y = [..], the store ahead of the block's end -/
theorem St.assignComp {s₀ s : Shared} {elt iter : Expr} {x y : Str} {px py : Pos} {ifs : List Expr} {scope : Scope} {cl : List (Str × Addr)} {pos spos : Pos} {d0 : D} {src : List D} {rf : Str → Option D} {rest : List Stmt} {Q : Flow → Shared → Prop} (p : D → Bool) (F : D → D)
    (st : St c s₀ s) (g0 : Gl c.K s₀.heap)
    (hsw : swapsWith (.ListComp elt [⟨.Name x px, iter, ifs, 0⟩] scope pos) (some (.Name y py)) spos.line c.env = pure true) (hy : c.env.kindOf y = some .local) (hox : ∀ z r ds, c.ow = some (z, r, ds) → z ≠ y)
    (hclos : closureFor scope c.env = pure cl) (hcell : ∀ z ∈ scope.names, z.2 ≠ .cell) (hkind : scope.kind = .function)
    (hnames : ∀ z ∈ scope.names, z.2 = .local → scope.names.lookup z.1 = some .local) (hx : scope.names.lookup x = some .local)
    (hi : Ev c iter d0) (hit : Itr c d0 src) (hsz : src.length ≤ 100000) (hfree : Free c scope cl rf)
    (htests : ∀ C Dd I d, d ∈ src → Tests (cxC c scope cl C Dd [I] (fun z => if z = x then some d else rf z)) ifs (p d))
    (helt : ∀ C Dd I d, d ∈ src → p d = true → Ev (cxC c scope cl C Dd [I] (fun z => if z = x then some d else rf z)) elt (F d))
    (hs : ∀ v, foldedSetIterable iter c.env v = pure v)
    (h : ∀ s', St (c.set y (.list ((src.filter p).map F))) s₀ s' → wpAny c.M c.A (execs rest c.env) Q E s') :
    wpAny c.M c.A (execs (.Assign [.Name y py] (.ListComp elt [⟨.Name x px, iter, ifs, 0⟩] scope pos) spos :: rest) c.env) Q E s := by
  refine wpAny_execs_cons ?_
  rw [exec_Assign_Name_used _ _ _ _ hsw]
  refine wpAny_bind (wpAny_standAt (wpAny_bind ?_))
  show wpAny _ c.A (do let _ ← comprehension (.ListComp elt [⟨.Name x px, iter, ifs, 0⟩] scope pos) scope c.env _ (newList []) false (eval iter c.env) (some (PySem.assign (.Name y py) c.env))) _ _ s
  refine wpAny_bind (wpAny_mono (wpAny_comprehension_free (use := some (PySem.assign (.Name y py) c.env)) (Q := fun _ s' => wpAny c.M c.A (execs rest c.env) Q E s') rfl hs hclos hkind hnames
    (hi.run s _ _ st.sv fun v h₁ tk₁ e₁ pv => ?_)) (fun _ s' hq => wpAny_pure (wpAny_pure hq)) fun _ _ e => e)
  have st₁ := st.ext e₁ tk₁
  have sv₁ := st₁.sv
  refine hit.run _ v _ _ sv₁ pv fun I fp P Stt h₂ tk₂ W e₂ hI hpr hP hst hfp => ?_
  refine comp_core (RR := fun acc C => compPost c.M c.A E (some (PySem.assign (.Name y py) c.env)) (fun _ s' => wpAny c.M c.A (execs rest c.env) Q E s') acc C) (hb := h₁) (src := src) (rf := rf) W p F rfl hsz sv₁ e₂ ?_ ?_ hP hcell hkind hx hst (fun b hb => (hfp b hb).1) hfree
    (fun C Dd d hd => htests C Dd _ d hd) (fun C Dd d hd hp => helt C Dd _ d hd hp) ?_
  · intro b hb; rcases List.mem_singleton.mp hb with rfl; exact hI
  · intro i h hst b hb; rcases List.mem_singleton.mp hb with rfl; exact hpr i h hst
  · intro Dd C h' tk m' ys hD hC hDC hDmu hn hl' hR hE
    obtain ⟨m, cm, f⟩ := st₁.fr
    have fns : h₁.Ns c.env.locals m := f.toInCall.ns
    have hLC : c.env.locals ≠ C := by rintro e; obtain ⟨o, _, _, ho, _⟩ := fns; rw [e, hC] at ho; cases ho
    have hLD : c.env.locals ≠ Dd := by rintro e; obtain ⟨o, _, _, ho, _⟩ := fns; rw [e, hD] at ho; cases ho
    show wpAny c.M c.A (PySem.assign (.Name y py) c.env (.ref Dd)) _ _ _
    refine wpAny_assign_Name (wpAny_storeName_local hy (fns.keeps hE) (fun h₂ hn₂ hs₂ => ?_) (by rw [st.ok.fn]; rfl))
    refine ⟨m', hn.sameBut hs₂ (Ne.symm hLC), fun h₃ hs₃ => h _ ?_⟩
    have ext : ∀ a o, a ≠ c.env.locals → h₁.get? a = some o → h₃.get? a = some o := fun a o hne e => hs₃.extBut a o (fun q => by rw [q, hC] at e; cases e) (hs₂.extBut a o hne (hE a o e))
    have hn₃ : h₃.Ns c.env.locals (fun z => if z = y then some (.ref Dd) else m z) := hn₂.sameBut hs₃ hLC
    have fr' : InCallC s₀ c.env.locals (fun z => if z = y then some (.ref Dd) else m z) c.env.cells cm { s with heap := h₃, toks := tk + 1 } := by
      refine ⟨⟨?_, hn₃, fun b o e => ?_, f.toInCall.fresh⟩, fun k a hk => ?_, f.apart, f.above⟩
      · obtain ⟨m0, cm0, f0⟩ := st.fr
        obtain ⟨h0, t0, rfl⟩ := f0.toInCall.same; exact ⟨h₃, _, rfl⟩
      · exact ext b o (Nat.ne_of_lt (Nat.lt_of_lt_of_le (Heap.lt_size e) f.toInCall.fresh)) (f.toInCall.keep b o e)
      · obtain ⟨o, ho, hd⟩ := f.cell k a hk
        exact ⟨o, ext a o (Nat.ne_of_gt (f.above k a (mem_of_lookup hk))) ho, hd⟩
    refine st₁.moved2 st.lmu ⟨_, _, fr'⟩ ext (.inl ⟨hy, _, hn₃, by simp⟩) (Rep.ofList (vs := ys) hDmu ((hl'.extBut hs₂.extBut (Ne.symm hLD)).extBut hs₃.extBut hDC) ?_) (fun z u hzy r => ?_) (fun z r ds hz => ⟨hox z r ds hz, (st.omu z r ds hz).2.1⟩) ?_ (fun p hp => (st.pmu p hp).1) (g0.ext fr'.toInCall.keep)
    · have q := (hR.mono (hide_sameBut (a := c.env.locals) (List.mem_append_right _ st.lmu) hs₂)).mono (hide_sameBut (a := C) (List.mem_append_left _ (.head _)) hs₃)
      exact q.mono (hide_sub fun b hb => List.mem_append_right _ hb)
    · rcases r with ⟨hk, m0, hn0, hm0⟩ | ⟨hk, a, ha, hcl⟩
      · have e : m0 z = m z := by
          obtain ⟨o, es, ep, h1, h2, h3, h4⟩ := hn0
          obtain ⟨o', es', ep', g1, g2, g3, g4⟩ := fns
          have h1' : h₁.get? c.env.locals = some o := h1
          rw [h1'] at g1; cases g1; rw [h2] at g2; cases g2
          exact (h4 z).symm.trans (g4 z)
        exact .inl ⟨hk, _, hn₃, by simp [hzy, ← e, hm0]⟩
      · obtain ⟨o, ho, hd⟩ := hcl
        exact .inr ⟨hk, a, ha, o, ext a o (Nat.ne_of_gt (f.above z a (mem_of_lookup ha))) ho, hd⟩
    · obtain ⟨o, _, _, ho, _⟩ := hn₃
      show (h₃.get? c.env.locals).isSome = true
      rw [ho]; rfl
end
end Mine
end PdHPart
section PdIPart
open PySem PySem.W PyProof.Rows
namespace Mine
/-! a list of the frame's own that grows; loops -/
abbrev Cx.own (c : Cx) (x : Str) (r : Addr) (ds : List D) : Cx := { c with mu := r :: c.mu, ow := some (x, r, ds), rho := fun y => if y = x then none else c.rho y }
abbrev Cx.grow (c : Cx) (x : Str) (r : Addr) (ds : List D) : Cx := { c with ow := some (x, r, ds) }

section
variable {c : Cx} {s₀ s : Shared} {E : Value → Shared → Prop}

theorem Sv.ownRead {x : Str} {r : Addr} {ds : List D} {h : Heap} (sv : Sv c h) (how : c.ow = some (x, r, ds)) (ok : EnvOk c.env) {p : Pos} {s : Shared} (hs : s.heap = h) {Q : Value → Shared → Prop} (hd : (x == ("__debug__" : Str)) = false) (hc : (x == ("__classdict__" : Str)) = false)
    (hq : Q (.ref r) s) : wpAny c.M c.A (eval (.Name x p) c.env) Q E s := by
  subst hs
  refine wpAny_Name ?_ hd
  rcases (sv.own x r ds how).1 with ⟨hl, m, hn, hm⟩ | ⟨hl | hl, a, ha, hcl⟩
  · exact wpAny_loadName_local ok.fn hl hn hm hq
  · exact wpAny_loadName_cell ok.fn hl ha hcl hq
  · exact wpAny_loadName_free ok.fn hl ha hcl hq hc

theorem Ev.lenOwn {x f : Str} {r : Addr} {ds : List D} {p1 p2 pos : Pos} (ok : EnvOk c.env) (how : c.ow = some (x, r, ds)) (hf : nsIn c.K mainGlobals f = some none) (hv : bootBuiltins f = some (.builtin "len")) (hn : f ≠ Str.ofString "__name__") (hk : c.env.kindOf f = some .globalImplicit)
    (hd : (f == ("__debug__" : Str)) = false) (hdx : (x == ("__debug__" : Str)) = false) (hcx : (x == ("__classdict__" : Str)) = false) (hl : ds.length ≤ 100000) : Ev c (.Call (.Name f p1) [.Name x p2] [] pos) (.int ds.length) := by
  refine ⟨?_⟩
  intro s Q E sv h
  obtain ⟨mg, hg, hm⟩ := sv.gl.g
  obtain ⟨mb, hgb, hmb⟩ := sv.gl.b
  refine wpAny_Call_Name_kw (Calls.Name_function_global ok.fn hk (Calls.loadGlobal_builtin (by rw [ok.gg]; exact hg) (hm _ _ hf) (by rw [ok.bb]; exact hgb) ((hmb f hn).trans hv) ?_) hd)
  refine Calls.callWith_builtin rfl ?_
  show wpAny c.M c.A (evalArgs (.builtin "len") true ((false, eval (.Name x p2) c.env) :: backTo pos []) []) _ E s
  refine Calls.evalArgs_plain (Calls.spliced_cons (sv.ownRead how ok rfl hdx hcx (Calls.spliced_nil ?_)))
  obtain ⟨vs, n, ho, rs⟩ := (sv.own x r ds how).2
  have e : vs.size = ds.length := by simpa using rs.length
  show wpAny c.M c.A (PySem.call (.builtin "len") [.ref r]) Q E s
  exact Calls.call_len_list ⟨_, ho, rfl, _, rfl⟩ (by rw [e]; omega) (by rw [e]; exact h _ _ _ (Ext.refl _) (.int _ _))
theorem Ev.itemOwn {x : Str} {i : Expr} {r : Addr} {ds : List D} {p pos : Pos} {k : Int} {d : D} (ok : EnvOk c.env) (how : c.ow = some (x, r, ds)) (hdx : (x == ("__debug__" : Str)) = false) (hcx : (x == ("__classdict__" : Str)) = false)
    (hi : Ev c i (.int k)) (h0 : 0 ≤ k) (hk : ds[k.toNat]? = some d) (hn : ds.length ≤ 100000) : Ev c (.Subscript (.Name x p) i pos) d := by
  refine ⟨?_⟩
  intro s Q E sv h
  refine wpAny_Sub rfl slot_list_getitem.lookup (sv.ownRead how ok rfl hdx hcx (hi.run _ _ _ sv fun b h' tk e p' => ?_))
  obtain ⟨vs, n, ho, rs⟩ := ((sv.ext e).own x r ds how).2
  obtain ⟨t, rfl⟩ := p'.intE
  obtain ⟨y, hy, py⟩ := rs.get hk
  have hl : h'.IsList r vs := ⟨_, ho, rfl, _, rfl⟩
  refine ⟨hl.typeIs, wpAny_getItem_list hl h0 ?_ (by simpa using hy) (h _ _ _ e py)⟩
  have := (List.getElem?_eq_some_iff.mp hk).1
  omega

theorem St.assignOwn {x : Str} {es : List Expr} {ds : List D} {p p' lp : Pos} {rest : List Stmt} {Q : Flow → Shared → Prop} (st : St c s₀ s) (g0 : Gl c.K s₀.heap) (he : Evs c es ds) (hn : ds.length ≤ 100000) (hx : c.env.kindOf x = some .local)
    (hs : swapsWith (.List es lp) (some (.Name x p')) p.line c.env = pure false) (h : ∀ r s', r ∉ c.mu → St (c.own x r ds) s₀ s' → wpAny c.M c.A (execs rest c.env) Q E s') : wpAny c.M c.A (execs (.Assign [.Name x p'] (.List es lp) p :: rest) c.env) Q E s := by
  refine wpAny_execs_cons (wpAny_Assign_Name (wpAny_List (he.run lp s _ _ st.sv fun vs h₁ tk₁ e₁ ps => ⟨sz _ (by rw [ps.length]; exact hn), ?_⟩)) hs)
  have st₁ := st.ext e₁ tk₁
  obtain ⟨m, cm, f⟩ := st₁.fr
  have fns : h₁.Ns c.env.locals m := f.toInCall.ns
  have hr0 : h₁.get? h₁.objs.size = none := by
    cases e : h₁.get? h₁.objs.size with
    | none => rfl
    | some o => exact absurd (Heap.lt_size e) (Nat.lt_irrefl _)
  have hrL : h₁.objs.size ≠ c.env.locals := by rintro e; obtain ⟨o, _, _, ho, _⟩ := fns; rw [← e, hr0] at ho; cases ho
  refine wpAny_storeName_local hx (fns.push _) (fun h₂ hn₂ hs₂ => h h₁.objs.size _ (st₁.sv.fresh (Nat.le_refl _)) ?_) (by rw [st.ok.fn]; rfl)
  have ext : ∀ a o, a ≠ c.env.locals → h₁.get? a = some o → h₂.get? a = some o := fun a o hne e => hs₂.extBut a o hne (Heap.get?_push_of_some _ e)
  have hro : h₂.get? h₁.objs.size = some (lObj vs.toArray 0) := hs₂.extBut _ _ hrL (Heap.get?_push_size _ rfl)
  have le : Le (hide c.mu h₁) (hide (h₁.objs.size :: c.mu) h₂) := fun b o e => by
    obtain ⟨q1, q2⟩ := hide_some e
    refine hide_of (fun q => ?_) (ext b o (fun q => q1 (q ▸ st.lmu)) q2)
    rcases List.mem_cons.mp q with rfl | q
    · rw [hr0] at q2; cases q2
    · exact q1 q
  have hsr : s₀.heap.get? h₁.objs.size = none := by
    cases e : s₀.heap.get? h₁.objs.size with
    | none => rfl
    | some o => have := f.toInCall.keep _ _ e; rw [show ({ s with heap := h₁, toks := tk₁ } : Shared).heap = h₁ from rfl, hr0] at this; cases this
  have rdk : ∀ y u, y ≠ x → Rd c.env h₁ y u → Rd c.env h₂ y u := fun y u hyx r => by
    rcases r with ⟨hk, m0, hn0, hm0⟩ | ⟨hk, a, ha, hcl⟩
    · have e : m0 y = m y := by
        obtain ⟨o, es, ep, h1, h2, h3, h4⟩ := hn0
        obtain ⟨o', es', ep', g1, g2, g3, g4⟩ := fns
        rw [h1] at g1; cases g1; rw [h2] at g2; cases g2
        exact (h4 y).symm.trans (g4 y)
      exact .inl ⟨hk, _, hn₂, by simp [hyx, ← e, hm0]⟩
    · obtain ⟨o, ho, hd⟩ := hcl
      exact .inr ⟨hk, a, ha, o, ext a o (Nat.ne_of_gt (f.above y a (mem_of_lookup ha))) ho, hd⟩
  have keep : Ext s₀.heap h₂ := fun b o e => ext b o (Nat.ne_of_lt (Nat.lt_of_lt_of_le (Heap.lt_size e) f.toInCall.fresh)) (f.toInCall.keep b o e)
  exact {
    fr := ⟨_, cm, ⟨⟨by obtain ⟨m0, cm0, f0⟩ := st.fr; obtain ⟨h0, t0, rfl⟩ := f0.toInCall.same; exact ⟨h₂, _, rfl⟩, hn₂, keep, f.toInCall.fresh⟩,
      fun k a hk => by obtain ⟨o, ho, hd⟩ := f.cell k a hk; exact ⟨o, ext a o (Nat.ne_of_gt (f.above k a (mem_of_lookup hk))) ho, hd⟩, f.apart, f.above⟩⟩
    ok := st.ok
    lmu := List.mem_cons_of_mem _ st.lmu
    cmu := fun y a ha => List.mem_cons_of_mem _ (st.cmu y a ha)
    omu := fun y r' ds' hy => by
      have hy' : some (x, h₁.objs.size, ds) = some (y, r', ds') := hy
      cases hy'
      refine ⟨.head _, hrL, fun z a hz e => ?_, hsr⟩
      obtain ⟨o, ho⟩ := Option.isSome_iff_exists.mp (st₁.sv.bound a (st.cmu z a hz))
      have ho' : h₁.get? a = some o := ho
      rw [← e, hr0] at ho'; cases ho'
    pmu := fun p hp => ⟨(st.pmu p hp).1, (st.pmu p hp).2.1, fun y r' ds' hy e => by
      have hy' : some (x, h₁.objs.size, ds) = some (y, r', ds') := hy
      cases hy'
      have q := st₁.sv.pin p hp
      have q' : h₁.get? p.1 = some p.2 := q
      rw [e, hr0] at q'; cases q'⟩
    sv := {
      gl := g0.ext keep
      bound := fun a ha => by
        rcases List.mem_cons.mp ha with rfl | ha
        · show (h₂.get? h₁.objs.size).isSome = true; rw [hro]; rfl
        · by_cases e : a = c.env.locals
          · obtain ⟨o, _, _, ho, _⟩ := hn₂
            show (h₂.get? a).isSome = true
            rw [e, ho]; rfl
          · obtain ⟨o, ho⟩ := Option.isSome_iff_exists.mp (st₁.sv.bound a ha)
            show (h₂.get? a).isSome = true
            rw [ext a o e ho]; rfl
      rd := fun y d hy => by
        have hy' : (if y = x then none else c.rho y) = some d := hy
        by_cases hyx : y = x
        · rw [if_pos hyx] at hy'; cases hy'
        · rw [if_neg hyx] at hy'
          obtain ⟨u, rr, pp⟩ := st₁.sv.rd y d hy'
          exact ⟨u, rdk y u hyx rr, pp.mono le⟩
      own := fun y r' ds' hy => by
        have hy' : some (x, h₁.objs.size, ds) = some (y, r', ds') := hy
        cases hy'
        exact ⟨.inl ⟨hx, _, hn₂, by simp⟩, vs.toArray, 0, hro, by simpa using ps.mono le⟩
      pin := fun p hp => ext _ _ (st.pmu p hp).1 (st₁.sv.pin p hp)
      dat := fun v d q => (st₁.sv.dat v d q).mono le } }

/-- the list is done with: plain data again -/
theorem St.freeze {x : Str} {r : Addr} {ds : List D} (st : St (c.own x r ds) s₀ s) (hl : c.env.locals ∈ c.mu) (hcm : ∀ y a, (y, a) ∈ c.env.cells → a ∈ c.mu) (hr : r ∉ c.mu) (how : c.ow = none) : St (c.set x (.list ds)) s₀ s where
  fr := st.fr
  ok := st.ok
  lmu := hl
  cmu := hcm
  omu := fun y r' ds' hy => by have hy' : c.ow = some (y, r', ds') := hy; rw [how] at hy'; cases hy'
  pmu := fun p hp => ⟨(st.pmu p hp).1, (st.pmu p hp).2.1, fun y r' ds' hy => by have hy' : c.ow = some (y, r', ds') := hy; rw [how] at hy'; cases hy'⟩
  sv := {
    gl := st.sv.gl
    bound := fun a ha => st.sv.bound a (List.mem_cons_of_mem _ ha)
    rd := fun y d hy => by
      have hy' : (if y = x then some (.list ds) else c.rho y) = some d := hy
      have le : Le (hide (r :: c.mu) s.heap) (hide c.mu s.heap) := hide_sub fun b hb => List.mem_cons_of_mem _ hb
      by_cases hyx : y = x
      · subst hyx
        rw [if_pos rfl] at hy'; cases hy'
        obtain ⟨a, vs, n, ho, rs⟩ := st.sv.own y r ds rfl
        exact ⟨.ref r, a, Rep.ofList (vs := vs) hr ⟨_, ho, rfl, _, rfl⟩ (rs.mono le)⟩
      · rw [if_neg hyx] at hy'
        obtain ⟨u, rr, pp⟩ := st.sv.rd y d (by show (if y = x then none else c.rho y) = some d; rw [if_neg hyx]; exact hy')
        exact ⟨u, rr, pp.mono le⟩
    own := fun y r' ds' hy => by have hy' : c.ow = some (y, r', ds') := hy; rw [how] at hy'; cases hy'
    pin := st.sv.pin
    dat := fun v d q => (st.sv.dat v d q).mono (hide_sub fun b hb => List.mem_cons_of_mem _ hb) }

theorem St.append {x : Str} {r : Addr} {ds : List D} {d : D} {arg : Expr} {p ap pos ep : Pos} {pl : Sem Bool} {rest : List Stmt} {Q : Flow → Shared → Prop} (st : St c s₀ s) (g0 : Gl c.K s₀.heap) (how : c.ow = some (x, r, ds)) (hdx : (x == ("__debug__" : Str)) = false) (hcx : (x == ("__classdict__" : Str)) = false)
    (ha : Ev c arg d) (hn : ds.length ≤ 100000) (hst : starEach [arg] c.env = [(false, eval arg c.env)])
    (he : eval (.Call (.Attribute (.Name x p) (Str.ofString "append") ap) [arg] [] pos) c.env = (do
      let ov ← eval (.Name x p) c.env
      standAt ap.atName
      let (f, first) ← holding [ov] (getMethod ov (Str.ofString "append") pl)
      callWith pos f first (backTo pos (starEach [arg] c.env)) []))
    (hi : interactive c.env = false) (hsw : swapsWith (.Call (.Attribute (.Name x p) (Str.ofString "append") ap) [arg] [] pos) none ep.line c.env = pure false)
    (h : ∀ s', St (c.grow x r (ds ++ [d])) s₀ s' → wpAny c.M c.A (execs rest c.env) Q E s') : wpAny c.M c.A (execs (.Expr (.Call (.Attribute (.Name x p) (Str.ofString "append") ap) [arg] [] pos) ep :: rest) c.env) Q E s := by
  refine wpAny_execs_cons (wpAny_Expr (MethodCall_ (pl := pl) (st.sv.ownRead how st.ok rfl hdx hcx ?_) he) hi hsw)
  obtain ⟨vs, n, ho, rs⟩ := (st.sv.own x r ds how).2
  refine Calls.getMethod_list_append ho rfl rfl ?_
  have hany : (backTo pos (starEach [arg] c.env)).any (·.1) = false := by rw [hst]; rfl
  refine Calls.callWith_builtin hany (evalArgs_of _ (Evs.one ha hst) (by rw [hst]; rfl) pos _ _ _ st.sv fun ws h₁ tk₁ e₁ ps => ?_)
  obtain ⟨v, rfl, pv⟩ := ps.one
  have st₁ := st.ext e₁ tk₁
  obtain ⟨vs, n, ho, rs⟩ := (st₁.sv.own x r ds how).2
  have ho' : h₁.get? r = some (lObj vs n) := ho
  have e : vs.size = ds.length := by simpa using rs.length
  obtain ⟨hrm, hrL, hrc, hr0⟩ := st.omu x r ds how
  refine wpAny_list_append_plain (items := vs) ⟨n, ho'⟩ (fun h₂ hl₂ hs₂ => h _ ?_) (sz _ (by omega))
  obtain ⟨n₂, ho₂⟩ := hl₂
  obtain ⟨m, cm, f⟩ := st₁.fr
  have keep : Ext s₀.heap h₂ := fun b o q => hs₂.extBut b o (fun w => by rw [w, hr0] at q; cases q) (f.toInCall.keep b o q)
  exact {
    fr := ⟨m, cm, ⟨⟨by obtain ⟨m0, cm0, f0⟩ := st.fr; obtain ⟨h0, t0, rfl⟩ := f0.toInCall.same; exact ⟨h₂, _, rfl⟩, f.toInCall.ns.sameBut hs₂ (Ne.symm hrL), keep, f.toInCall.fresh⟩,
      fun k a hk => (f.cell k a hk).sameBut hs₂ (Ne.symm (hrc k a (mem_of_lookup hk))), f.apart, f.above⟩⟩
    ok := st.ok
    lmu := st.lmu
    cmu := st.cmu
    omu := fun y r' ds' hy => by
      have hy' : some (x, r, ds ++ [d]) = some (y, r', ds') := hy
      cases hy'
      exact ⟨hrm, hrL, hrc, hr0⟩
    pmu := fun p hp => ⟨(st.pmu p hp).1, (st.pmu p hp).2.1, fun y r' ds' hy => by
      have hy' : some (x, r, ds ++ [d]) = some (y, r', ds') := hy
      cases hy'
      exact (st.pmu p hp).2.2 x r ds how⟩
    sv := {
      gl := g0.ext keep
      bound := fun a ha => by
        by_cases q : a = r
        · subst q; show (h₂.get? a).isSome = true; rw [ho₂]; rfl
        · show (h₂.get? a).isSome = true; rw [hs₂.2 a q]; exact st₁.sv.bound a ha
      rd := fun y d' hy => by
        obtain ⟨u, rr, pp⟩ := st₁.sv.rd y d' hy
        refine ⟨u, ?_, pp.mono (hide_sameBut hrm hs₂)⟩
        rcases rr with ⟨hk, m0, hn0, hm0⟩ | ⟨hk, a, ha, hcl⟩
        · exact .inl ⟨hk, m0, hn0.sameBut hs₂ (Ne.symm hrL), hm0⟩
        · exact .inr ⟨hk, a, ha, hcl.sameBut hs₂ (Ne.symm (hrc y a (mem_of_lookup ha)))⟩
      own := fun y r' ds' hy => by
        have hy' : some (x, r, ds ++ [d]) = some (y, r', ds') := hy
        cases hy'
        refine ⟨?_, vs.push v, n₂, ho₂, ?_⟩
        · rcases (st₁.sv.own x r ds how).1 with ⟨hk, m0, hn0, hm0⟩ | ⟨hk, a, ha, hcl⟩
          · exact .inl ⟨hk, m0, hn0.sameBut hs₂ (Ne.symm hrL), hm0⟩
          · exact .inr ⟨hk, a, ha, hcl.sameBut hs₂ (Ne.symm (hrc x a (mem_of_lookup ha)))⟩
        · have := (rs.append (.cons pv .nil)).mono (hide_sameBut hrm hs₂)
          simpa using this
      pin := fun p hp => (hs₂.2 _ ((st.pmu p hp).2.2 x r ds how)).trans (st₁.sv.pin p hp)
      dat := fun v d q => (st₁.sv.dat v d q).mono (hide_sameBut hrm hs₂) } }

/-- a while, by a family of states and a measure -/
theorem St.while_ {ι : Type} (cf : ι → Cx) (μ : ι → Nat) (Inv : ι → Prop) {test : Expr} {body rest : List Stmt} {p : Pos} {Q : Flow → Shared → Prop} (i₀ : ι) (hsame : ∀ i, (cf i).M = c.M ∧ (cf i).A = c.A ∧ (cf i).env = c.env) (st : St (cf i₀) s₀ s) (h0 : Inv i₀)
    (turn : ∀ i, Inv i → ∃ b, Tr (cf i) test b ∧
      (b = true → ∀ s' (E' : Value → Shared → Prop), St (cf i) s₀ s' → wpAny c.M c.A (execs body c.env) (fun f s'' => match f with | .next | .cont => ∃ j, μ j < μ i ∧ Inv j ∧ St (cf j) s₀ s'' | .brk => wpAny c.M c.A (execs rest c.env) Q E s'' | .ret v => Q (.ret v) s'') E' s') ∧
      (b = false → ∀ s', St (cf i) s₀ s' → wpAny c.M c.A (execs rest c.env) Q E s')) :
    wpAny c.M c.A (execs (.While test body [] p :: rest) c.env) Q E s := by
  refine wpAny_execs_cons (wpAny_While (codeAny_whileLoop (fun n s' => ∃ i, Inv i ∧ μ i = n ∧ St (cf i) s₀ s') (fun n s' hI => ?_) (μ i₀) ⟨i₀, h0, rfl, st⟩))
  obtain ⟨i, hi, rfl, st'⟩ := hI
  obtain ⟨b, ht, h1, h2⟩ := turn i hi
  obtain ⟨q1, q2, q3⟩ := hsame i
  have key := fun Q' E' hq => St.tr (Q := Q') (E := E') st' ht hq
  rw [q1, q2, q3] at key
  refine key _ _ fun s₂ st₂ => ?_
  cases b with
  | true =>
    refine wpAny_mono (h1 rfl s₂ _ st₂) (fun f s₃ hf => ?_) fun _ _ e => e
    cases f with
    | next => obtain ⟨j, hj, hInv, stj⟩ := hf; exact ⟨μ j, hj, j, hInv, rfl, stj⟩
    | cont => obtain ⟨j, hj, hInv, stj⟩ := hf; exact ⟨μ j, hj, j, hInv, rfl, stj⟩
    | brk => exact hf
    | ret v => exact hf
  | false => exact wpAny_execs_nil (h2 rfl s₂ st₂)
end
end Mine
end PdIPart
section PdKPart
open PySem PySem.W PyProof.Rows PySem.SeqAt
namespace Mine
/-! comparing lists and tuples, on data -/
def pairEq {α : Type} [BEq α] (xs ys : List α) (j : Nat) : Bool := match xs[j]?, ys[j]? with | some a, some b => a == b | _, _ => true
theorem all_range {α : Type} [BEq α] : ∀ (xs ys : List α), xs.length = ys.length → (List.range xs.length).all (pairEq xs ys) = (xs == ys)
  | [], [], _ => rfl
  | [], _ :: _, h => by simp at h
  | _ :: _, [], h => by simp at h
  | a :: xs, b :: ys, h => by
    have h' : xs.length = ys.length := by simpa using h
    have ih := all_range xs ys h'
    rw [List.length_cons, List.range_succ_eq_map, List.all_cons, List.all_map]
    show (a == b && (List.range xs.length).all (pairEq xs ys)) = _
    rw [ih]; rfl
theorem beq_len {α : Type} [BEq α] : ∀ (xs ys : List α), xs.length ≠ ys.length → (xs == ys) = false
  | [], [], h => absurd rfl h
  | [], _ :: _, _ => rfl
  | _ :: _, [], _ => rfl
  | a :: xs, b :: ys, h => by
    have : (xs == ys) = false := beq_len xs ys (by simpa using h)
    show (a == b && xs == ys) = false
    rw [this, Bool.and_false]

section
variable {A : Around} {s : Shared} {mu : List Addr}
theorem Reps.at {P : PH} {vs : Array Value} {ds : List D} (r : Reps P vs.toList ds) (j : Nat) (h : j < vs.size) : ∃ d, ds[j]? = some d ∧ Rep P vs[j] d := by
  have hl := r.length
  have hj : j < ds.length := by rw [← hl]; simpa using h
  obtain ⟨v, hv, p⟩ := r.get (List.getElem?_eq_getElem hj)
  refine ⟨_, List.getElem?_eq_getElem hj, ?_⟩
  have : vs[j] = v := by
    have h2 : vs.toList[j]? = some vs[j] := by simp [h]
    rw [h2] at hv; cases hv; rfl
  rw [this]; exact p

theorem Reps.consE {P : PH} {vs : List Value} {d : D} {ds : List D} (r : Reps P vs (d :: ds)) : ∃ v vs', vs = v :: vs' ∧ Rep P v d ∧ Reps P vs' ds := by
  cases r with | cons p r => exact ⟨_, _, rfl, p, r⟩
theorem list_facts {α : Type} [BEq α] (m : α → D) (hEq : ∀ (A : Around) v u a b, Rep (hide mu s.heap) v (m a) → Rep (hide mu s.heap) u (m b) → EqAt A s v u (a == b)) {vs us : Array Value} {xs ys : List α}
    (r1 : Reps (hide mu s.heap) vs.toList (xs.map m)) (r2 : Reps (hide mu s.heap) us.toList (ys.map m)) (A : Around) (j : Nat) (h1 : j < vs.size) (h2 : j < us.size) : EqAt A s vs[j] us[j] (pairEq xs ys j) := by
  obtain ⟨d, hd, p⟩ := r1.at j h1
  obtain ⟨e, he, q⟩ := r2.at j h2
  rw [List.getElem?_map] at hd he
  cases hx : xs[j]? with
  | none => rw [hx] at hd; cases hd
  | some a =>
    cases hy : ys[j]? with
    | none => rw [hy] at he; cases he
    | some b =>
      rw [hx] at hd; rw [hy] at he
      cases hd; cases he
      have e : pairEq xs ys j = (a == b) := by unfold pairEq; rw [hx, hy]
      rw [e]
      exact hEq A _ _ a b p q

theorem rcL {α : Type} [BEq α] (m : α → D) (hEq : ∀ (A : Around) v u a b, Rep (hide mu s.heap) v (m a) → Rep (hide mu s.heap) u (m b) → EqAt A s v u (a == b)) {v u : Value} {xs ys : List α} (hu : A.units < cLine)
    (p : Rep (hide mu s.heap) v (.list (xs.map m))) (q : Rep (hide mu s.heap) u (.list (ys.map m))) : RcAt A s v u (xs == ys) := by
  obtain ⟨a, vs, rfl, ha, hl, r1⟩ := p.listE
  obtain ⟨b, us, rfl, hb, hl', r2⟩ := q.listE
  have e1 : vs.size = xs.length := by simpa using r1.length
  have e2 : us.size = ys.length := by simpa using r2.length
  by_cases h : xs.length = ys.length
  · have := RcAt.lists (A := A) hl hl' (by omega) hu (e := pairEq xs ys) (fun j h1 h2 => list_facts m hEq r1 r2 _ j h1 h2)
    rw [e1, all_range xs ys h] at this
    exact this
  · rw [beq_len xs ys h]
    exact RcAt.lists_lengths hl hl' (by simp; omega) hu
theorem rcNeL {α : Type} [BEq α] (m : α → D) (hEq : ∀ (A : Around) v u a b, Rep (hide mu s.heap) v (m a) → Rep (hide mu s.heap) u (m b) → EqAt A s v u (a == b)) {v u : Value} {xs ys : List α} (hu : A.units < cLine)
    (p : Rep (hide mu s.heap) v (.list (xs.map m))) (q : Rep (hide mu s.heap) u (.list (ys.map m))) : RcNeAt A s v u (xs != ys) := by
  obtain ⟨a, vs, rfl, ha, hl, r1⟩ := p.listE
  obtain ⟨b, us, rfl, hb, hl', r2⟩ := q.listE
  have e1 : vs.size = xs.length := by simpa using r1.length
  have e2 : us.size = ys.length := by simpa using r2.length
  by_cases h : xs.length = ys.length
  · have := RcNeAt.lists (A := A) hl hl' (by omega) hu (e := pairEq xs ys) (fun j h1 h2 => list_facts m hEq r1 r2 _ j h1 h2)
    rw [e1, all_range xs ys h] at this
    exact this
  · have e : (xs != ys) = true := by show (!(xs == ys)) = true; rw [beq_len xs ys h]; rfl
    rw [e]
    exact RcNeAt.lists_lengths hl hl' (by simp; omega) hu
theorem rqS {A : Around} {v u : Value} {a b : Str} (p : Rep (hide mu s.heap) v (.str a)) (q : Rep (hide mu s.heap) u (.str b)) : EqAt A s v u (a == b) := by
  obtain ⟨t, rfl⟩ := p.strE; obtain ⟨t', rfl⟩ := q.strE
  exact EqAt.str_str _ _ _ _
theorem rqB {A : Around} {v u : Value} {a b : Bool} (p : Rep (hide mu s.heap) v (.bool a)) (q : Rep (hide mu s.heap) u (.bool b)) : EqAt A s v u (a == b) := by
  rw [p.boolE, q.boolE]
  exact EqAt.bool_bool _ _
theorem map_str_inj : ∀ {xs ys : List Str}, xs.map D.str = ys.map D.str → xs = ys
  | [], [], _ => rfl
  | [], _ :: _, h => by simp at h
  | _ :: _, [], h => by simp at h
  | x :: xs, y :: ys, h => by
    injection h with h1 h2
    injection h1 with h1
    rw [h1, map_str_inj h2]
theorem map_bool_inj : ∀ {xs ys : List Bool}, xs.map D.bool = ys.map D.bool → xs = ys
  | [], [], _ => rfl
  | [], _ :: _, h => by simp at h
  | _ :: _, [], h => by simp at h
  | x :: xs, y :: ys, h => by
    injection h with h1 h2
    injection h1 with h1
    rw [h1, map_bool_inj h2]
mutual
theorem Rep.inj {P : PH} : ∀ {v : Value} {d e : D}, Rep P v d → Rep P v e → d = e
  | _, _, _, .none, .none => rfl
  | _, _, _, .bool _, .bool _ => rfl
  | _, _, _, .int _ _, .int _ _ => rfl
  | _, _, _, .str _ _, .str _ _ => rfl
  | _, _, _, .typ _, .typ _ => rfl
  | _, _, _, .list a b c r, .list a' b' c' r' => by
    rw [a] at a'; cases a'
    rw [c] at c'; cases c'
    rw [Reps.inj r r']
  | _, _, _, .tup a b c r, .tup a' b' c' r' => by
    rw [a] at a'; cases a'
    rw [c] at c'; cases c'
    rw [Reps.inj r r']
  | _, _, _, .list a b c r, .tup a' b' c' r' => by
    rw [a] at a'; cases a'
    rw [b] at b'; simp at b'
  | _, _, _, .tup a b c r, .list a' b' c' r' => by
    rw [a] at a'; cases a'
    rw [b] at b'; simp at b'
  | _, _, _, .rng a, .rng a' => by
    rw [a] at a'; cases a'; rfl
  | _, _, _, .rng a, .list a' b' c' r' => by
    rw [a] at a'; cases a'
    simp at b'
  | _, _, _, .rng a, .tup a' b' c' r' => by
    rw [a] at a'; cases a'
    simp at b'
  | _, _, _, .list a b c r, .rng a' => by
    rw [a'] at a; cases a
    simp at b
  | _, _, _, .tup a b c r, .rng a' => by
    rw [a'] at a; cases a
    simp at b
theorem Reps.inj {P : PH} : ∀ {vs : List Value} {ds es : List D}, Reps P vs ds → Reps P vs es → ds = es
  | _, _, _, .nil, .nil => rfl
  | _, _, _, .cons a r, .cons a' r' => by rw [Rep.inj a a', Reps.inj r r']
end
theorem eqLL {α : Type} [BEq α] [ReflBEq α] (m : α → D) (hm : ∀ {xs ys : List α}, xs.map m = ys.map m → xs = ys) (hEq : ∀ (A : Around) v u a b, Rep (hide mu s.heap) v (m a) → Rep (hide mu s.heap) u (m b) → EqAt A s v u (a == b)) {v u : Value} {xs ys : List α} (hu : A.units < cLine)
    (p : Rep (hide mu s.heap) v (.list (xs.map m))) (q : Rep (hide mu s.heap) u (.list (ys.map m))) : EqAt A s v u (xs == ys) := by
  have rc := rcL m hEq hu p q
  obtain ⟨a, vs, rfl, ha, hl, r1⟩ := p.listE
  obtain ⟨b, us, rfl, hb, hl', r2⟩ := q.listE
  by_cases h : a = b
  · subst h
    have e := Rep.inj p q
    have e' : xs = ys := hm (by injection e)
    subst e'
    rw [beq_self_eq_true]
    exact EqAt.same _
  · exact EqAt.of_refs h rc
end

section
variable {c : Cx}
theorem CmpR.eqLS {xs ys : List Str} (room : Room c.A 2) : CmpR c .Eq (.list (xs.map D.str)) (.list (ys.map D.str)) (xs == ys) := by
  refine ⟨fun s a b Q E sv p q k => ?_⟩
  exact rcL D.str (fun A v u a b => rqS) (by have := room.un; unfold cLine; omega) p q c.prog c.w E Q (k s.heap s.toks (Ext.refl _))
theorem CmpR.neLS {xs ys : List Str} (room : Room c.A 2) : CmpR c .NotEq (.list (xs.map D.str)) (.list (ys.map D.str)) (xs != ys) := by
  refine ⟨fun s a b Q E sv p q k => ?_⟩
  exact rcNeL D.str (fun A v u a b => rqS) (by have := room.un; unfold cLine; omega) p q c.prog c.w E Q (k s.heap s.toks (Ext.refl _))
theorem CmpR.eqNil {ds : List D} (room : Room c.A 2) : CmpR c .Eq (.list ds) (.list []) (ds.length == 0) := by
  refine ⟨fun s a b Q E sv p q k => ?_⟩
  obtain ⟨a, vs, rfl, ha, hl, r1⟩ := p.listE
  obtain ⟨b, us, rfl, hb, hl', r2⟩ := q.listE
  have e1 : vs.size = ds.length := by simpa using r1.length
  have e2 : us.size = 0 := by simpa using r2.length
  have hu : c.A.units < cLine := by have := room.un; unfold cLine; omega
  by_cases h : ds.length = 0
  · have e : (ds.length == 0) = (List.range vs.size).all (fun _ => true) := by rw [e1, h]; rfl
    rw [e] at k
    exact RcAt.lists (A := c.A) hl hl' (by omega) hu (fun j h1 h2 => by omega) c.prog c.w E Q (k s.heap s.toks (Ext.refl _))
  · have e : (ds.length == 0) = false := by simp; simpa using h
    rw [e] at k
    exact RcAt.lists_lengths hl hl' (by simp; omega) hu c.prog c.w E Q (k s.heap s.toks (Ext.refl _))
theorem CmpR.neNil {ds : List D} (room : Room c.A 2) : CmpR c .NotEq (.list ds) (.list []) (ds.length != 0) := by
  refine ⟨fun s a b Q E sv p q k => ?_⟩
  obtain ⟨a, vs, rfl, ha, hl, r1⟩ := p.listE
  obtain ⟨b, us, rfl, hb, hl', r2⟩ := q.listE
  have e1 : vs.size = ds.length := by simpa using r1.length
  have e2 : us.size = 0 := by simpa using r2.length
  have hu : c.A.units < cLine := by have := room.un; unfold cLine; omega
  by_cases h : ds.length = 0
  · have e : (ds.length != 0) = (!(List.range vs.size).all (fun _ => true)) := by rw [e1, h]; rfl
    rw [e] at k
    exact RcNeAt.lists (A := c.A) hl hl' (by omega) hu (fun j h1 h2 => by omega) c.prog c.w E Q (k s.heap s.toks (Ext.refl _))
  · have e : (ds.length != 0) = true := by simp; simpa using h
    rw [e] at k
    exact RcNeAt.lists_lengths hl hl' (by simp; omega) hu c.prog c.w E Q (k s.heap s.toks (Ext.refl _))

/-- the answer's five places -/
theorem CmpR.eq5 {xs xs' : List Str} {b b' : Bool} {y y' : Str} {us us' ws ws' : List Bool} (room : Room c.A 2) :
    CmpR c .Eq (.tup [.list (xs.map D.str), .bool b, .str y, .list (us.map D.bool), .list (ws.map D.bool)]) (.tup [.list (xs'.map D.str), .bool b', .str y', .list (us'.map D.bool), .list (ws'.map D.bool)])
      (xs == xs' && (b == b' && (y == y' && (us == us' && ws == ws')))) := by
  refine ⟨fun s a b Q E sv p q k => ?_⟩
  obtain ⟨a, vs, rfl, ha, hl, r1⟩ := p.tupE
  obtain ⟨b, vs', rfl, hb, hl', r2⟩ := q.tupE
  have hu : c.A.units < cLine := by have := room.un; unfold cLine; omega
  have hu' : c.A.in1.units < cLine := by have := room.un; show c.A.units + 1 < cLine; unfold cLine; omega
  obtain ⟨l⟩ := vs
  obtain ⟨l'⟩ := vs'
  have r1' : Reps (hide c.mu s.heap) l _ := r1
  have r2' : Reps (hide c.mu s.heap) l' _ := r2
  obtain ⟨v1, l1, rfl, p1, r1'⟩ := r1'.consE
  obtain ⟨v2, l2, rfl, p2, r1'⟩ := r1'.consE
  obtain ⟨v3, l3, rfl, p3, r1'⟩ := r1'.consE
  obtain ⟨v4, l4, rfl, p4, r1'⟩ := r1'.consE
  obtain ⟨v5, rfl, p5⟩ := r1'.one
  obtain ⟨u1, m1, rfl, q1, r2'⟩ := r2'.consE
  obtain ⟨u2, m2, rfl, q2, r2'⟩ := r2'.consE
  obtain ⟨u3, m3, rfl, q3, r2'⟩ := r2'.consE
  obtain ⟨u4, m4, rfl, q4, r2'⟩ := r2'.consE
  obtain ⟨u5, rfl, q5⟩ := r2'.one
  have f1 := eqLL (A := c.A.in1) D.str map_str_inj (fun A v u a b => rqS) hu' p1 q1
  have f2 := rqB (A := c.A.in1) p2 q2
  have f3 := rqS (A := c.A.in1) p3 q3
  have f4 := eqLL (A := c.A.in1) D.bool map_bool_inj (fun A v u a b => rqB) hu' p4 q4
  have f5 := eqLL (A := c.A.in1) D.bool map_bool_inj (fun A v u a b => rqB) hu' p5 q5
  have key := RcAt.tuples (A := c.A) (e := fun j => match j with | 0 => xs == xs' | 1 => _ | 2 => y == y' | 3 => us == us' | _ => ws == ws') hl hl' hu (fun j h1 h2 => by
    match j, h1, h2 with
    | 0, _, _ => exact f1
    | 1, _, _ => exact f2
    | 2, _, _ => exact f3
    | 3, _, _ => exact f4
    | 4, _, _ => exact f5
    | j + 5, h1, _ => simp at h1; omega)
  refine key c.prog c.w E Q ?_
  have := k s.heap s.toks (Ext.refl _)
  simpa [List.range_succ, List.all_append, Bool.and_assoc] using this
end
end Mine
end PdKPart
section PdLPart
open PySem PySem.W PyProof.Rows PySem.SeqAt PySem.MeetsSeq PySem.MeetsSeq2 PySem.MeetsSeq3 PySem.SeqRoads2
open AutoSeq1 (wpAny_loadPart')
namespace Mine
/-! lists of texts in order; min, max -/
def ltL : List Str → List Str → Bool
  | [], [] => false
  | [], _ :: _ => true
  | _ :: _, [] => false
  | x :: xs, y :: ys => if (x == y) = true then ltL xs ys else decide (cl x < cl y)
theorem ltL_nil_r (xs : List Str) : ltL xs [] = false := by cases xs <;> rfl
theorem drop_cons {α : Type} {l : List α} {i : Nat} {a : α} (h : l[i]? = some a) : l.drop i = a :: l.drop (i + 1) := by
  obtain ⟨h1, h2⟩ := List.getElem?_eq_some_iff.mp h
  rw [List.drop_eq_getElem_cons h1, h2]
theorem drop_none {α : Type} {l : List α} {i : Nat} (h : l[i]? = none) : l.drop i = [] := by
  rw [List.getElem?_eq_none_iff] at h; exact List.drop_of_length_le h

theorem lt_loopAt (l b : Addr) (ss ss2 : List (Str × Tok)) (n n2 : Nat) (dd dd2 : Option Addr) (sl sl2 : Array (Option Value)) (k : Nat) :
    ∀ i : Nat, ss.length + 1 - i = k → i ≤ ss.length → i ≤ ss2.length → Meets (Builtin.«list.__eq__.loop» ⟨[.ref l, .ref b, rawInt i, rawInt 0], []⟩)
      (fun _ R s => s.heap.get? l = some { cls := .type "list", dict := dd, data := .seq (strValues ss).toArray n, slots := sl } ∧ s.heap.get? b = some { cls := .type "list", dict := dd2, data := .seq (strValues ss2).toArray n2, slots := sl2 } ∧
        R (.ok (.ret (.bool (ltL ((ss.map (·.1)).drop i) ((ss2.map (·.1)).drop i))))) s) := by
  induction k with
  | zero => intro i hk hi; omega
  | succ k ih =>
    intro i hk hi hi2 prog w A R s h
    obtain ⟨hp, g, d, tk, os⟩ := s; obtain ⟨hl, hb, h⟩ := h
    wp_walk using wpAny_loadPart' hl, wpAny_loadPart' hb
    have g1 : ∀ j, (strValues ss).toArray[((j : Nat) : Int).toNat]? = (ss[j]?).map (fun p => Value.str p.1 p.2) := by intro j; simp [strValues]
    have g2 : ∀ j, (strValues ss2).toArray[((j : Nat) : Int).toNat]? = (ss2[j]?).map (fun p => Value.str p.1 p.2) := by intro j; simp [strValues]
    have z1 : (strValues ss).toArray.size = ss.length := by simp [strValues]
    have z2 : (strValues ss2).toArray.size = ss2.length := by simp [strValues]
    cases hx : ss[i]? with
    | none =>
      have hxl : ss.length ≤ i := List.getElem?_eq_none_iff.mp hx
      rw [g1 i, hx]
      have e1 : (ss.map (·.1)).drop i = [] := List.drop_of_length_le (by simpa using hxl)
      rw [e1] at h
      wp_walk using wpAny_loadPart' hl, wpAny_loadPart' hb
      show R (.ok (.ret (.bool (decide ((strValues ss).toArray.size < (strValues ss2).toArray.size))))) _
      rw [z1, z2]
      have e3 : ltL ([]) ((ss2.map (·.1)).drop i) = decide (ss.length < ss2.length) := by
        cases hy : ss2[i]? with
        | none =>
          have hyl : ss2.length ≤ i := List.getElem?_eq_none_iff.mp hy
          rw [List.drop_of_length_le (by simpa using hyl)]
          have : ¬ ss.length < ss2.length := by omega
          rw [decide_eq_false this]; rfl
        | some y =>
          have hyl := (List.getElem?_eq_some_iff.mp hy).1
          have hy2 : (ss2.map (·.1))[i]? = some y.1 := by rw [List.getElem?_map, hy]; rfl
          rw [drop_cons hy2]
          have : ss.length < ss2.length := by omega
          rw [decide_eq_true this]; rfl
      rw [e3] at h
      exact h
    | some x =>
      have hxl := (List.getElem?_eq_some_iff.mp hx).1
      have hx2 : (ss.map (·.1))[i]? = some x.1 := by rw [List.getElem?_map, hx]; rfl
      rw [drop_cons hx2] at h
      cases hy : ss2[i]? with
      | none =>
        have hyl : ss2.length ≤ i := List.getElem?_eq_none_iff.mp hy
        have ed : (ss2.map (·.1)).drop i = [] := List.drop_of_length_le (by simpa using hyl)
        rw [ed] at h
        rw [g1 i, g2 i, hx, hy]
        wp_walk using wpAny_loadPart' hl, wpAny_loadPart' hb
        show R (.ok (.ret (.bool (decide ((strValues ss).toArray.size < (strValues ss2).toArray.size))))) _
        rw [z1, z2]
        have : ¬ ss.length < ss2.length := by omega
        rw [decide_eq_false this]
        exact h
      | some y =>
        have hyl := (List.getElem?_eq_some_iff.mp hy).1
        have hy2 : (ss2.map (·.1))[i]? = some y.1 := by rw [List.getElem?_map, hy]; rfl
        rw [drop_cons hy2] at h
        rw [g1 i, g2 i, hx, hy]
        have hc : ((i : Int) + 1) = ((i + 1 : Nat) : Int) := by push_cast; rfl
        refine wpAny_bind (EqAt.str_str x.1 x.2 y.1 y.2 prog w _ _ ?_)
        cases hb' : (x.1 == y.1) with
        | true =>
          have e5 : ltL ((x.1 :: (ss.map (·.1)).drop (i + 1))) ((y.1 :: (ss2.map (·.1)).drop (i + 1))) = ltL (((ss.map (·.1)).drop (i + 1))) (((ss2.map (·.1)).drop (i + 1))) := by
            show (if (x.1 == y.1) = true then _ else _) = _; rw [hb']; rfl
          rw [e5] at h
          wp_walk
          rw [hc]
          exact ⟨plainId_quiet plain_eq_loop _, codeAny_builtin entry_eq_loop (by
            rw [Around.under_plainId plain_eq_loop _]
            exact ih (i + 1) (by omega) (by omega) (by omega) prog w A R _ ⟨hl, hb, h⟩)⟩
        | false =>
          have e5 : ltL ((x.1 :: (ss.map (·.1)).drop (i + 1))) ((y.1 :: (ss2.map (·.1)).drop (i + 1))) = decide (cl x.1 < cl y.1) := by
            show (if (x.1 == y.1) = true then _ else _) = _; rw [hb']; rfl
          rw [e5] at h
          wp_walk using wpAny_loadPart' hl, wpAny_loadPart' hb
          rw [g1 i, g2 i, hx, hy]
          show wpAny _ _ (richCompare .Lt (.str x.1 x.2) (.str y.1 y.2) >>= _) _ _ _
          refine wpAny_bind (P.lt_str ?_)
          wp_walk
          exact h

theorem gt_loopAt (l b : Addr) (ss ss2 : List (Str × Tok)) (n n2 : Nat) (dd dd2 : Option Addr) (sl sl2 : Array (Option Value)) (k : Nat) :
    ∀ i : Nat, ss.length + 1 - i = k → i ≤ ss.length → i ≤ ss2.length → Meets (Builtin.«list.__eq__.loop» ⟨[.ref l, .ref b, rawInt i, rawInt 4], []⟩)
      (fun _ R s => s.heap.get? l = some { cls := .type "list", dict := dd, data := .seq (strValues ss).toArray n, slots := sl } ∧ s.heap.get? b = some { cls := .type "list", dict := dd2, data := .seq (strValues ss2).toArray n2, slots := sl2 } ∧
        R (.ok (.ret (.bool (ltL ((ss2.map (·.1)).drop i) ((ss.map (·.1)).drop i))))) s) := by
  induction k with
  | zero => intro i hk hi; omega
  | succ k ih =>
    intro i hk hi hi2 prog w A R s h
    obtain ⟨hp, g, d, tk, os⟩ := s; obtain ⟨hl, hb, h⟩ := h
    wp_walk using wpAny_loadPart' hl, wpAny_loadPart' hb
    have g1 : ∀ j, (strValues ss).toArray[((j : Nat) : Int).toNat]? = (ss[j]?).map (fun p => Value.str p.1 p.2) := by intro j; simp [strValues]
    have g2 : ∀ j, (strValues ss2).toArray[((j : Nat) : Int).toNat]? = (ss2[j]?).map (fun p => Value.str p.1 p.2) := by intro j; simp [strValues]
    have z1 : (strValues ss).toArray.size = ss.length := by simp [strValues]
    have z2 : (strValues ss2).toArray.size = ss2.length := by simp [strValues]
    cases hx : ss[i]? with
    | none =>
      have hxl : ss.length ≤ i := List.getElem?_eq_none_iff.mp hx
      rw [g1 i, hx]
      have e1 : (ss.map (·.1)).drop i = [] := List.drop_of_length_le (by simpa using hxl)
      rw [e1] at h
      wp_walk using wpAny_loadPart' hl, wpAny_loadPart' hb
      show R (.ok (.ret (.bool (decide ((strValues ss).toArray.size > (strValues ss2).toArray.size))))) _
      rw [z1, z2]
      have e3 : ltL ((ss2.map (·.1)).drop i) ([]) = decide (ss.length > ss2.length) := by
        cases hy : ss2[i]? with
        | none =>
          have hyl : ss2.length ≤ i := List.getElem?_eq_none_iff.mp hy
          rw [List.drop_of_length_le (by simpa using hyl)]
          have : ¬ ss.length > ss2.length := by omega
          rw [decide_eq_false this]; rfl
        | some y =>
          have hyl := (List.getElem?_eq_some_iff.mp hy).1
          have hy2 : (ss2.map (·.1))[i]? = some y.1 := by rw [List.getElem?_map, hy]; rfl
          rw [drop_cons hy2]
          have : ¬ ss.length > ss2.length := by omega
          rw [decide_eq_false this]; rfl
      rw [e3] at h
      exact h
    | some x =>
      have hxl := (List.getElem?_eq_some_iff.mp hx).1
      have hx2 : (ss.map (·.1))[i]? = some x.1 := by rw [List.getElem?_map, hx]; rfl
      rw [drop_cons hx2] at h
      cases hy : ss2[i]? with
      | none =>
        have hyl : ss2.length ≤ i := List.getElem?_eq_none_iff.mp hy
        have ed : (ss2.map (·.1)).drop i = [] := List.drop_of_length_le (by simpa using hyl)
        rw [ed] at h
        rw [g1 i, g2 i, hx, hy]
        wp_walk using wpAny_loadPart' hl, wpAny_loadPart' hb
        show R (.ok (.ret (.bool (decide ((strValues ss).toArray.size > (strValues ss2).toArray.size))))) _
        rw [z1, z2]
        have : ss.length > ss2.length := by omega
        rw [decide_eq_true this]
        exact h
      | some y =>
        have hyl := (List.getElem?_eq_some_iff.mp hy).1
        have hy2 : (ss2.map (·.1))[i]? = some y.1 := by rw [List.getElem?_map, hy]; rfl
        rw [drop_cons hy2] at h
        rw [g1 i, g2 i, hx, hy]
        have hc : ((i : Int) + 1) = ((i + 1 : Nat) : Int) := by push_cast; rfl
        refine wpAny_bind (EqAt.str_str x.1 x.2 y.1 y.2 prog w _ _ ?_)
        cases hb' : (x.1 == y.1) with
        | true =>
          have e5 : ltL ((y.1 :: (ss2.map (·.1)).drop (i + 1))) ((x.1 :: (ss.map (·.1)).drop (i + 1))) = ltL (((ss2.map (·.1)).drop (i + 1))) (((ss.map (·.1)).drop (i + 1))) := by
            show (if (y.1 == x.1) = true then _ else _) = _; rw [show (y.1 == x.1) = true by rw [beq_iff_eq] at hb' ⊢; exact hb'.symm]; rfl
          rw [e5] at h
          wp_walk
          rw [hc]
          exact ⟨plainId_quiet plain_eq_loop _, codeAny_builtin entry_eq_loop (by
            rw [Around.under_plainId plain_eq_loop _]
            exact ih (i + 1) (by omega) (by omega) (by omega) prog w A R _ ⟨hl, hb, h⟩)⟩
        | false =>
          have e5 : ltL ((y.1 :: (ss2.map (·.1)).drop (i + 1))) ((x.1 :: (ss.map (·.1)).drop (i + 1))) = decide (cl y.1 < cl x.1) := by
            show (if (y.1 == x.1) = true then _ else _) = _; rw [show (y.1 == x.1) = false by rw [beq_eq_false_iff_ne] at hb' ⊢; exact Ne.symm hb']; rfl
          rw [e5] at h
          wp_walk using wpAny_loadPart' hl, wpAny_loadPart' hb
          rw [g1 i, g2 i, hx, hy]
          show wpAny _ _ (richCompare .Gt (.str x.1 x.2) (.str y.1 y.2) >>= _) _ _ _
          refine wpAny_bind (P.gt_str ?_)
          wp_walk
          exact h
end Mine
end PdLPart
section PdMPart
open PySem PySem.W PyProof.Rows PySem.SeqAt
open AutoSeq1 (wpAny_loadPart')
namespace Mine
/-! min and max of lists of texts -/

theorem list_ltAt (l b : Addr) (ss ss2 : List (Str × Tok)) (n n2 : Nat) (dd dd2 : Option Addr) (sl sl2 : Array (Option Value)) :
    Meets (Builtin.«list.__lt__» ⟨[.ref l, .ref b], []⟩)
      (fun _ R s => s.heap.get? l = some { cls := .type "list", dict := dd, data := .seq (strValues ss).toArray n, slots := sl } ∧ s.heap.get? b = some { cls := .type "list", dict := dd2, data := .seq (strValues ss2).toArray n2, slots := sl2 } ∧
        R (.ok (.ret (.bool (ltL (ss.map (·.1)) (ss2.map (·.1)))))) s) := by
  intro prog w A R s h
  obtain ⟨hp, g, d, tk, os⟩ := s; obtain ⟨hl, hb, h⟩ := h
  have f3 := AutoSeq1.sub_list_list
  wp_walk using wpAny_loadPart' hl, wpAny_loadPart' hb
  exact ⟨plainId_quiet MeetsSeq3.plain_eq_loop _, codeAny_builtin MeetsSeq3.entry_eq_loop (by
    rw [Around.under_plainId MeetsSeq3.plain_eq_loop _]
    exact lt_loopAt l b ss ss2 n n2 dd dd2 sl sl2 _ 0 rfl (Nat.zero_le _) (Nat.zero_le _) prog w A R _ ⟨hl, hb, by simpa using h⟩)⟩
theorem rc_lt {prog : Program} {w : World} {A : Around} {E : Value → Shared → Prop} {s : Shared} {mu : List Addr} {v u : Value} {xs ys : List Str} {Q : Value → Shared → Prop} (hu : A.units < cLine) (p : Rep (hide mu s.heap) v (.list (xs.map D.str))) (q : Rep (hide mu s.heap) u (.list (ys.map D.str)))
    (h : Q (.bool (ltL (xs) (ys))) s) : wpAny (model prog w) A (richCompare .Lt v u) Q E s := by
  obtain ⟨a, vs, rfl, ha, hl, r1⟩ := p.listE
  obtain ⟨b, us, rfl, hb, hl', r2⟩ := q.listE
  obtain ⟨ss, e1, rfl⟩ := strs_reps r1
  obtain ⟨ss2, e2, rfl⟩ := strs_reps r2
  have e1' : vs = (strValues ss).toArray := by rw [← e1]
  have e2' : us = (strValues ss2).toArray := by rw [← e2]
  subst e1'; subst e2'
  obtain ⟨⟨cls, dd, data, sl⟩, ho, hc, n, hd⟩ := id hl
  obtain ⟨⟨cls2, dd2, data2, sl2⟩, ho2, hc2, n2, hd2⟩ := id hl'
  simp only at hc hd hc2 hd2
  subst hc hd hc2 hd2
  exact richCompare_meets_room (op := .Lt) ⟨_, ho, rfl⟩ ⟨_, ho2, rfl⟩ F.slot_list_lt F.entry_list_lt (F.args_list_lt_2 _ _) (list_ltAt a b ss ss2 n n2 dd dd2 sl sl2)
    ⟨ho, ho2, show Value.bool (ltL (ss.map (·.1)) (ss2.map (·.1))) ≠ Value.notImplemented ∧ Q (.bool (ltL (ss.map (·.1)) (ss2.map (·.1)))) s from ⟨(fun x => nomatch x), h⟩⟩ hu

section
variable {prog : Program} {w : World} {A : Around} {R : Result → Shared → Prop} {I : Addr} {fp wr : List Addr} {n : Nat} {P : Nat → Value → Prop} {Stt : Nat → Heap → Prop} {hb : Heap}
/-- the loop of min, where what is compared stands in the heap hb -/
theorem min_turns (W : Walks prog w A.in1 I fp wr n P Stt) (bt : Nat → Nat → Bool)
    (hcmp : ∀ i j vi vj (s : Shared) (Q : Value → Shared → Prop) (E : Value → Shared → Prop), Ext hb s.heap → P i vi → P j vj → Q (.bool (bt i j)) s → wpAny (model prog w) A.in1 (richCompare .Lt vi vj) Q E s)
    (S : Addr) (hSf : S ∉ fp) (hSb : hb.get? S = none) (hwb : ∀ b ∈ wr, hb.get? b = none) :
    ∀ (k j : Nat) (s : Shared) (vb : Value) (c : Nat), n - (j + 1) = k → j + 1 ≤ n → Stt (j + 1) s.heap → Ext hb s.heap → P (argBest bt j) vb → s.heap.get? S = some (lObj #[vb, vb] c) →
    (∀ v h' tk, P (argBest bt (n - 1)) v → Ext hb h' → R (.ok (.ret v)) { s with heap := h', toks := tk }) → codeAny (model prog w) A (.builtin "min.loop" ⟨[.ref I, .none, .ref S], []⟩) R s := by
  have hSw : S ∉ wr := fun h => hSf (W.sub _ h)
  have hname : (toString "min" ++ toString ".loop" : String) = "min.loop" := by decide
  have up : ∀ {h h' : Heap}, Ext hb h → (∀ b o, b ∉ wr → h.get? b = some o → h'.get? b = some o) → Ext hb h' := fun e k b o q => k b o (fun m => by rw [hwb b m] at q; cases q) (e b o q)
  have upS : ∀ {h : Heap} (f : Obj → Obj), Ext hb h → Ext hb (h.update S f) := fun f e b o q => (Heap.get?_update_other _ _ (fun m : S = b => by rw [← m, hSb] at q; cases q)).trans (e b o q)
  intro k
  induction k with
  | zero =>
    intro j s vb c hk hj hst hE hPb hS hR
    have hin : j + 1 = n := by omega
    refine codeAny_builtin F.entry_min_loop ?_
    rw [Around.under_plainId F.plain_min_loop _]
    show wpAny _ A.in1 (seqItems? (.ref S) >>= _) _ _ s
    refine wpAny_bind (wpAny_seqItems hS rfl ?_)
    show wpAny _ A.in1 (tryCatch (pyNext (.ref I)) _ >>= _) _ _ s
    refine wpAny_bind (wpAny_tryCatch (W.done s _ _ (hin ▸ hst) fun h' tk hk' => ?_))
    show wpAny _ A.in1 (updateSeq S (fun _ => #[]) >>= _) _ _ _
    refine wpAny_bind (wpAny_updateSeq (hk' S _ hSw hS) rfl (wpAny_bind (wpAny_letGo (wpAny_pure ?_))))
    exact hR vb _ tk (by rw [← hin]; exact hPb) (upS _ (up hE hk'))
  | succ k ih =>
    intro j s vb c hk hj hst hE hPb hS hR
    have hlt : j + 1 < n := by omega
    refine codeAny_builtin F.entry_min_loop ?_
    rw [Around.under_plainId F.plain_min_loop _]
    show wpAny _ A.in1 (seqItems? (.ref S) >>= _) _ _ s
    refine wpAny_bind (wpAny_seqItems hS rfl ?_)
    show wpAny _ A.in1 (tryCatch (pyNext (.ref I)) _ >>= _) _ _ s
    refine wpAny_bind (wpAny_tryCatch (W.item (j + 1) s _ _ hlt hst fun v h' tk hP hst' hk' => ?_))
    have hS' := hk' S _ hSw hS
    have hE' := up hE hk'
    show wpAny _ A.in1 (tryCatch (holding [v, v] (richCompare .Lt v vb >>= _)) _ >>= _) _ _ _
    refine wpAny_bind (wpAny_tryCatch (wpAny_holding (wpAny_bind (hcmp (j + 1) (argBest bt j) v vb _ _ _ hE' hP hPb ?_))))
    refine wpAny_bind (wpAny_holding (wpAny_truthy_bool (wpAny_bind (wpAny_letGo (wpAny_pure ?_)))))
    cases hbb : bt (j + 1) (argBest bt j) with
    | true =>
      simp only [if_true]
      refine wpAny_bind (wpAny_updateSeq hS' rfl (wpAny_bind (wpAny_letGo ?_)))
      rw [hname]
      refine wpAny_pure ⟨plainId_quiet F.plain_min_loop _, ih (j + 1) _ v _ (by omega) hlt (W.frame _ _ _ hst' fun b hbf o e => ?_) (upS _ hE') (by simp only [argBest, hbb, if_true]; exact hP) (Heap.get?_update_self _ hS' rfl) hR⟩
      exact (Heap.get?_update_other _ _ (fun h : S = b => hSf (by rw [h]; exact hbf))).trans e
    | false =>
      simp only [Bool.false_eq_true, if_false]
      refine wpAny_bind (wpAny_letGo ?_)
      rw [hname]
      exact wpAny_pure ⟨plainId_quiet F.plain_min_loop _, ih (j + 1) _ vb c (by omega) hlt hst' hE' (by simp only [argBest, hbb, Bool.false_eq_true, if_false]; exact hPb) hS' hR⟩
end
def minL (xss : List (List Str)) : List Str := xss.getD (argBest (fun i j => ltL (xss.getD i []) (xss.getD j [])) (xss.length - 1)) []
theorem Bi.min {c : Cx} {xss : List (List Str)} (room : Room c.A 3) (hne : xss ≠ []) : Bi c (.builtin "min") [.list (xss.map fun xs => .list (xs.map D.str))] (.list ((minL xss).map D.str)) := by
  refine ⟨fun s vs Q E sv r k => ?_⟩
  obtain ⟨v, rfl, p⟩ := r.one
  obtain ⟨ax, items, rfl, hax, hl, rs⟩ := p.listE
  have hlen : items.size = xss.length := by simpa using rs.length
  have hn : 0 < items.size := by rw [hlen]; exact List.length_pos_iff.mpr hne
  have hname : (toString "min" ++ toString ".loop" : String) = "min.loop" := by decide
  refine call_function_tree F.kind_min F.plain_min F.entry_min (F.args_min1 _) ?_
  show wpAny _ c.A.in1 (Builtin.Builtins.bindParams "min" ["key", "default"] 0 ⟨[], []⟩ >>= _) _ _ s
  refine wpAny_bind (wpAny_of_eq (show Builtin.Builtins.bindParams "min" ["key", "default"] 0 ⟨[], []⟩ = pure [none, none] from rfl) ?_)
  refine wpAny_bind (wpAny_pure (wpAny_bind (wpAny_pyIter_list hl (wpAny_bind (wpAny_newObj_type ?_)))))
  rw [hname]
  have hlt : ax < s.heap.objs.size := by obtain ⟨o, ho, _⟩ := hl; exact Heap.lt_size ho
  have fresh : ∀ a, s.heap.objs.size ≤ a → s.heap.get? a = none := fun a ha => by
    cases e : s.heap.get? a with
    | none => rfl
    | some o => exact absurd (Heap.lt_size e) (Nat.not_lt.mpr ha)
  have W := Walks.list (prog := c.prog) (w := c.w) (A := c.A.in1) room.hd s.heap.objs.size ax (Nat.ne_of_lt hlt) items
  have hP : ∀ i v, items[i]? = some v → Rep (hide c.mu s.heap) v (.list ((xss.getD i []).map D.str)) := fun i v hv => by
    have hi : i < items.size := (Array.getElem?_eq_some_iff.mp hv).1
    obtain ⟨d, hd, q⟩ := rs.at i hi
    have : items[i] = v := (Array.getElem?_eq_some_iff.mp hv).2
    rw [this] at q
    rw [List.getElem?_map] at hd
    rw [List.getD_eq_getElem?_getD]
    cases hx : xss[i]? with
    | none => rw [hx] at hd; cases hd
    | some xs => rw [hx] at hd; cases hd; exact q
  have hcmp : ∀ i j vi vj (s' : Shared) (Q : Value → Shared → Prop) (E : Value → Shared → Prop), Ext s.heap s'.heap → items[i]? = some vi → items[j]? = some vj → Q (.bool (ltL (xss.getD i []) (xss.getD j []))) s' →
      wpAny (model c.prog c.w) c.A.in1 (richCompare .Lt vi vj) Q E s' := fun i j vi vj s' Q E hE hi hj hq =>
    rc_lt (by have := room.un; show c.A.units + 1 < cLine; unfold cLine; omega) ((hP i vi hi).mono (hide_ext hE)) ((hP j vj hj).mono (hide_ext hE)) hq
  generalize hH : s.heap.push _ = H1
  have hH1 : H1.objs.size = s.heap.objs.size + 1 := by rw [← hH, Heap.size_push]
  have hI : H1.IsListIter s.heap.objs.size ax 0 := by rw [← hH]; exact ⟨_, Heap.get?_push_size _ rfl, rfl, rfl⟩
  have hE1 : Ext s.heap H1 := by rw [← hH]; exact Ext.push _ _
  have n1 : H1.objs.size ≠ s.heap.objs.size := by rw [hH1]; exact Nat.succ_ne_self _
  have n2 : H1.objs.size ≠ ax := by rw [hH1]; exact Nat.ne_of_gt (Nat.lt_succ_of_lt hlt)
  have hSf : H1.objs.size ∉ [s.heap.objs.size, ax] := fun q => by
    rcases List.mem_cons.mp q with q | q
    · exact n1 q
    · exact n2 (List.mem_singleton.mp q)
  refine wpAny_pure ⟨plainId_quiet F.plain_min_loop _, ?_⟩
  refine codeAny_builtin F.entry_min_loop ?_
  rw [Around.under_plainId F.plain_min_loop _]
  show wpAny _ c.A.in1 (seqItems? (.ref H1.objs.size) >>= _) _ _ _
  refine wpAny_bind (wpAny_seqItems (Heap.get?_push_size _ rfl) rfl ?_)
  show wpAny _ c.A.in1 (tryCatch (pyNext (.ref s.heap.objs.size)) _ >>= _) _ _ _
  refine wpAny_bind (wpAny_tryCatch (W.item 0 _ _ _ hn ⟨?_, ?_⟩ fun v h' tk hPv hst' hk' => ?_))
  · obtain ⟨o, ho, hr⟩ := hI; exact ⟨o, Heap.get?_push_of_some _ ho, hr⟩
  · obtain ⟨o, ho, hr⟩ := hl; exact ⟨o, Heap.get?_push_of_some _ (hE1 _ _ ho), hr⟩
  have hS' := hk' H1.objs.size _ (fun q => n1 (List.mem_singleton.mp q)) (Heap.get?_push_size _ rfl)
  show wpAny _ c.A.in1 (updateSeq H1.objs.size (fun _ => #[v, v]) >>= _) _ _ _
  refine wpAny_bind (wpAny_updateSeq hS' rfl ?_)
  rw [hname]
  refine wpAny_pure ⟨plainId_quiet F.plain_min_loop _, min_turns (hb := s.heap) W (fun i j => ltL (xss.getD i []) (xss.getD j [])) hcmp H1.objs.size hSf (fresh _ (by omega)) (fun b hb => by rcases List.mem_singleton.mp hb with rfl; exact fresh _ (Nat.le_refl _)) _ 0 _ v _ rfl hn
    (W.frame _ _ _ hst' fun b hbf o e => (Heap.get?_update_other _ _ (fun h => hSf (by rw [h]; exact hbf))).trans e) ?_ hPv (Heap.get?_update_self _ hS' rfl) fun v' h'' tk'' hP' hE'' => ?_⟩
  · intro b o e
    have hbs : b < s.heap.objs.size := Heap.lt_size e
    refine (Heap.get?_update_other _ _ (Nat.ne_of_gt (by rw [hH1]; exact Nat.lt_succ_of_lt hbs))).trans (hk' b o (fun q => Nat.ne_of_lt hbs (List.mem_singleton.mp q)) (Heap.get?_push_of_some _ (hE1 _ _ e)))
  · refine k v' h'' tk'' hE'' ?_
    have := (hP _ _ hP').mono (hide_ext hE'')
    rw [hlen] at this
    exact this

theorem list_gtAt (l b : Addr) (ss ss2 : List (Str × Tok)) (n n2 : Nat) (dd dd2 : Option Addr) (sl sl2 : Array (Option Value)) :
    Meets (Builtin.«list.__gt__» ⟨[.ref l, .ref b], []⟩)
      (fun _ R s => s.heap.get? l = some { cls := .type "list", dict := dd, data := .seq (strValues ss).toArray n, slots := sl } ∧ s.heap.get? b = some { cls := .type "list", dict := dd2, data := .seq (strValues ss2).toArray n2, slots := sl2 } ∧
        R (.ok (.ret (.bool (ltL (ss2.map (·.1)) (ss.map (·.1)))))) s) := by
  intro prog w A R s h
  obtain ⟨hp, g, d, tk, os⟩ := s; obtain ⟨hl, hb, h⟩ := h
  have f3 := AutoSeq1.sub_list_list
  wp_walk using wpAny_loadPart' hl, wpAny_loadPart' hb
  exact ⟨plainId_quiet MeetsSeq3.plain_eq_loop _, codeAny_builtin MeetsSeq3.entry_eq_loop (by
    rw [Around.under_plainId MeetsSeq3.plain_eq_loop _]
    exact gt_loopAt l b ss ss2 n n2 dd dd2 sl sl2 _ 0 rfl (Nat.zero_le _) (Nat.zero_le _) prog w A R _ ⟨hl, hb, by simpa using h⟩)⟩
theorem rc_gt {prog : Program} {w : World} {A : Around} {E : Value → Shared → Prop} {s : Shared} {mu : List Addr} {v u : Value} {xs ys : List Str} {Q : Value → Shared → Prop} (hu : A.units < cLine) (p : Rep (hide mu s.heap) v (.list (xs.map D.str))) (q : Rep (hide mu s.heap) u (.list (ys.map D.str)))
    (h : Q (.bool (ltL (ys) (xs))) s) : wpAny (model prog w) A (richCompare .Gt v u) Q E s := by
  obtain ⟨a, vs, rfl, ha, hl, r1⟩ := p.listE
  obtain ⟨b, us, rfl, hb, hl', r2⟩ := q.listE
  obtain ⟨ss, e1, rfl⟩ := strs_reps r1
  obtain ⟨ss2, e2, rfl⟩ := strs_reps r2
  have e1' : vs = (strValues ss).toArray := by rw [← e1]
  have e2' : us = (strValues ss2).toArray := by rw [← e2]
  subst e1'; subst e2'
  obtain ⟨⟨cls, dd, data, sl⟩, ho, hc, n, hd⟩ := id hl
  obtain ⟨⟨cls2, dd2, data2, sl2⟩, ho2, hc2, n2, hd2⟩ := id hl'
  simp only at hc hd hc2 hd2
  subst hc hd hc2 hd2
  exact richCompare_meets_room (op := .Gt) ⟨_, ho, rfl⟩ ⟨_, ho2, rfl⟩ F.slot_list_gt F.entry_list_gt (F.args_list_gt_2 _ _) (list_gtAt a b ss ss2 n n2 dd dd2 sl sl2)
    ⟨ho, ho2, show Value.bool (ltL (ss2.map (·.1)) (ss.map (·.1))) ≠ Value.notImplemented ∧ Q (.bool (ltL (ss2.map (·.1)) (ss.map (·.1)))) s from ⟨(fun x => nomatch x), h⟩⟩ hu

section
variable {prog : Program} {w : World} {A : Around} {R : Result → Shared → Prop} {I : Addr} {fp wr : List Addr} {n : Nat} {P : Nat → Value → Prop} {Stt : Nat → Heap → Prop} {hb : Heap}
/-- the loop of max, where what is compared stands in the heap hb -/
theorem max_turns (W : Walks prog w A.in1 I fp wr n P Stt) (bt : Nat → Nat → Bool)
    (hcmp : ∀ i j vi vj (s : Shared) (Q : Value → Shared → Prop) (E : Value → Shared → Prop), Ext hb s.heap → P i vi → P j vj → Q (.bool (bt i j)) s → wpAny (model prog w) A.in1 (richCompare .Gt vi vj) Q E s)
    (S : Addr) (hSf : S ∉ fp) (hSb : hb.get? S = none) (hwb : ∀ b ∈ wr, hb.get? b = none) :
    ∀ (k j : Nat) (s : Shared) (vb : Value) (c : Nat), n - (j + 1) = k → j + 1 ≤ n → Stt (j + 1) s.heap → Ext hb s.heap → P (argBest bt j) vb → s.heap.get? S = some (lObj #[vb, vb] c) →
    (∀ v h' tk, P (argBest bt (n - 1)) v → Ext hb h' → R (.ok (.ret v)) { s with heap := h', toks := tk }) → codeAny (model prog w) A (.builtin "max.loop" ⟨[.ref I, .none, .ref S], []⟩) R s := by
  have hSw : S ∉ wr := fun h => hSf (W.sub _ h)
  have hname : (toString "max" ++ toString ".loop" : String) = "max.loop" := by decide
  have up : ∀ {h h' : Heap}, Ext hb h → (∀ b o, b ∉ wr → h.get? b = some o → h'.get? b = some o) → Ext hb h' := fun e k b o q => k b o (fun m => by rw [hwb b m] at q; cases q) (e b o q)
  have upS : ∀ {h : Heap} (f : Obj → Obj), Ext hb h → Ext hb (h.update S f) := fun f e b o q => (Heap.get?_update_other _ _ (fun m : S = b => by rw [← m, hSb] at q; cases q)).trans (e b o q)
  intro k
  induction k with
  | zero =>
    intro j s vb c hk hj hst hE hPb hS hR
    have hin : j + 1 = n := by omega
    refine codeAny_builtin F.entry_max_loop ?_
    rw [Around.under_plainId F.plain_max_loop _]
    show wpAny _ A.in1 (seqItems? (.ref S) >>= _) _ _ s
    refine wpAny_bind (wpAny_seqItems hS rfl ?_)
    show wpAny _ A.in1 (tryCatch (pyNext (.ref I)) _ >>= _) _ _ s
    refine wpAny_bind (wpAny_tryCatch (W.done s _ _ (hin ▸ hst) fun h' tk hk' => ?_))
    show wpAny _ A.in1 (updateSeq S (fun _ => #[]) >>= _) _ _ _
    refine wpAny_bind (wpAny_updateSeq (hk' S _ hSw hS) rfl (wpAny_bind (wpAny_letGo (wpAny_pure ?_))))
    exact hR vb _ tk (by rw [← hin]; exact hPb) (upS _ (up hE hk'))
  | succ k ih =>
    intro j s vb c hk hj hst hE hPb hS hR
    have hlt : j + 1 < n := by omega
    refine codeAny_builtin F.entry_max_loop ?_
    rw [Around.under_plainId F.plain_max_loop _]
    show wpAny _ A.in1 (seqItems? (.ref S) >>= _) _ _ s
    refine wpAny_bind (wpAny_seqItems hS rfl ?_)
    show wpAny _ A.in1 (tryCatch (pyNext (.ref I)) _ >>= _) _ _ s
    refine wpAny_bind (wpAny_tryCatch (W.item (j + 1) s _ _ hlt hst fun v h' tk hP hst' hk' => ?_))
    have hS' := hk' S _ hSw hS
    have hE' := up hE hk'
    show wpAny _ A.in1 (tryCatch (holding [v, v] (richCompare .Gt v vb >>= _)) _ >>= _) _ _ _
    refine wpAny_bind (wpAny_tryCatch (wpAny_holding (wpAny_bind (hcmp (j + 1) (argBest bt j) v vb _ _ _ hE' hP hPb ?_))))
    refine wpAny_bind (wpAny_holding (wpAny_truthy_bool (wpAny_bind (wpAny_letGo (wpAny_pure ?_)))))
    cases hbb : bt (j + 1) (argBest bt j) with
    | true =>
      simp only [if_true]
      refine wpAny_bind (wpAny_updateSeq hS' rfl (wpAny_bind (wpAny_letGo ?_)))
      rw [hname]
      refine wpAny_pure ⟨plainId_quiet F.plain_max_loop _, ih (j + 1) _ v _ (by omega) hlt (W.frame _ _ _ hst' fun b hbf o e => ?_) (upS _ hE') (by simp only [argBest, hbb, if_true]; exact hP) (Heap.get?_update_self _ hS' rfl) hR⟩
      exact (Heap.get?_update_other _ _ (fun h : S = b => hSf (by rw [h]; exact hbf))).trans e
    | false =>
      simp only [Bool.false_eq_true, if_false]
      refine wpAny_bind (wpAny_letGo ?_)
      rw [hname]
      exact wpAny_pure ⟨plainId_quiet F.plain_max_loop _, ih (j + 1) _ vb c (by omega) hlt hst' hE' (by simp only [argBest, hbb, Bool.false_eq_true, if_false]; exact hPb) hS' hR⟩
end
def maxL (xss : List (List Str)) : List Str := xss.getD (argBest (fun i j => ltL (xss.getD j []) (xss.getD i [])) (xss.length - 1)) []
theorem Bi.max {c : Cx} {xss : List (List Str)} (room : Room c.A 3) (hne : xss ≠ []) : Bi c (.builtin "max") [.list (xss.map fun xs => .list (xs.map D.str))] (.list ((maxL xss).map D.str)) := by
  refine ⟨fun s vs Q E sv r k => ?_⟩
  obtain ⟨v, rfl, p⟩ := r.one
  obtain ⟨ax, items, rfl, hax, hl, rs⟩ := p.listE
  have hlen : items.size = xss.length := by simpa using rs.length
  have hn : 0 < items.size := by rw [hlen]; exact List.length_pos_iff.mpr hne
  have hname : (toString "max" ++ toString ".loop" : String) = "max.loop" := by decide
  refine call_function_tree F.kind_max F.plain_max F.entry_max (F.args_max1 _) ?_
  show wpAny _ c.A.in1 (Builtin.Builtins.bindParams "max" ["key", "default"] 0 ⟨[], []⟩ >>= _) _ _ s
  refine wpAny_bind (wpAny_of_eq (show Builtin.Builtins.bindParams "max" ["key", "default"] 0 ⟨[], []⟩ = pure [none, none] from rfl) ?_)
  refine wpAny_bind (wpAny_pure (wpAny_bind (wpAny_pyIter_list hl (wpAny_bind (wpAny_newObj_type ?_)))))
  rw [hname]
  have hlt : ax < s.heap.objs.size := by obtain ⟨o, ho, _⟩ := hl; exact Heap.lt_size ho
  have fresh : ∀ a, s.heap.objs.size ≤ a → s.heap.get? a = none := fun a ha => by
    cases e : s.heap.get? a with
    | none => rfl
    | some o => exact absurd (Heap.lt_size e) (Nat.not_lt.mpr ha)
  have W := Walks.list (prog := c.prog) (w := c.w) (A := c.A.in1) room.hd s.heap.objs.size ax (Nat.ne_of_lt hlt) items
  have hP : ∀ i v, items[i]? = some v → Rep (hide c.mu s.heap) v (.list ((xss.getD i []).map D.str)) := fun i v hv => by
    have hi : i < items.size := (Array.getElem?_eq_some_iff.mp hv).1
    obtain ⟨d, hd, q⟩ := rs.at i hi
    have : items[i] = v := (Array.getElem?_eq_some_iff.mp hv).2
    rw [this] at q
    rw [List.getElem?_map] at hd
    rw [List.getD_eq_getElem?_getD]
    cases hx : xss[i]? with
    | none => rw [hx] at hd; cases hd
    | some xs => rw [hx] at hd; cases hd; exact q
  have hcmp : ∀ i j vi vj (s' : Shared) (Q : Value → Shared → Prop) (E : Value → Shared → Prop), Ext s.heap s'.heap → items[i]? = some vi → items[j]? = some vj → Q (.bool (ltL (xss.getD j []) (xss.getD i []))) s' →
      wpAny (model c.prog c.w) c.A.in1 (richCompare .Gt vi vj) Q E s' := fun i j vi vj s' Q E hE hi hj hq =>
    rc_gt (by have := room.un; show c.A.units + 1 < cLine; unfold cLine; omega) ((hP i vi hi).mono (hide_ext hE)) ((hP j vj hj).mono (hide_ext hE)) hq
  generalize hH : s.heap.push _ = H1
  have hH1 : H1.objs.size = s.heap.objs.size + 1 := by rw [← hH, Heap.size_push]
  have hI : H1.IsListIter s.heap.objs.size ax 0 := by rw [← hH]; exact ⟨_, Heap.get?_push_size _ rfl, rfl, rfl⟩
  have hE1 : Ext s.heap H1 := by rw [← hH]; exact Ext.push _ _
  have n1 : H1.objs.size ≠ s.heap.objs.size := by rw [hH1]; exact Nat.succ_ne_self _
  have n2 : H1.objs.size ≠ ax := by rw [hH1]; exact Nat.ne_of_gt (Nat.lt_succ_of_lt hlt)
  have hSf : H1.objs.size ∉ [s.heap.objs.size, ax] := fun q => by
    rcases List.mem_cons.mp q with q | q
    · exact n1 q
    · exact n2 (List.mem_singleton.mp q)
  refine wpAny_pure ⟨plainId_quiet F.plain_max_loop _, ?_⟩
  refine codeAny_builtin F.entry_max_loop ?_
  rw [Around.under_plainId F.plain_max_loop _]
  show wpAny _ c.A.in1 (seqItems? (.ref H1.objs.size) >>= _) _ _ _
  refine wpAny_bind (wpAny_seqItems (Heap.get?_push_size _ rfl) rfl ?_)
  show wpAny _ c.A.in1 (tryCatch (pyNext (.ref s.heap.objs.size)) _ >>= _) _ _ _
  refine wpAny_bind (wpAny_tryCatch (W.item 0 _ _ _ hn ⟨?_, ?_⟩ fun v h' tk hPv hst' hk' => ?_))
  · obtain ⟨o, ho, hr⟩ := hI; exact ⟨o, Heap.get?_push_of_some _ ho, hr⟩
  · obtain ⟨o, ho, hr⟩ := hl; exact ⟨o, Heap.get?_push_of_some _ (hE1 _ _ ho), hr⟩
  have hS' := hk' H1.objs.size _ (fun q => n1 (List.mem_singleton.mp q)) (Heap.get?_push_size _ rfl)
  show wpAny _ c.A.in1 (updateSeq H1.objs.size (fun _ => #[v, v]) >>= _) _ _ _
  refine wpAny_bind (wpAny_updateSeq hS' rfl ?_)
  rw [hname]
  refine wpAny_pure ⟨plainId_quiet F.plain_max_loop _, max_turns (hb := s.heap) W (fun i j => ltL (xss.getD j []) (xss.getD i [])) hcmp H1.objs.size hSf (fresh _ (by omega)) (fun b hb => by rcases List.mem_singleton.mp hb with rfl; exact fresh _ (Nat.le_refl _)) _ 0 _ v _ rfl hn
    (W.frame _ _ _ hst' fun b hbf o e => (Heap.get?_update_other _ _ (fun h => hSf (by rw [h]; exact hbf))).trans e) ?_ hPv (Heap.get?_update_self _ hS' rfl) fun v' h'' tk'' hP' hE'' => ?_⟩
  · intro b o e
    have hbs : b < s.heap.objs.size := Heap.lt_size e
    refine (Heap.get?_update_other _ _ (Nat.ne_of_gt (by rw [hH1]; exact Nat.lt_succ_of_lt hbs))).trans (hk' b o (fun q => Nat.ne_of_lt hbs (List.mem_singleton.mp q)) (Heap.get?_push_of_some _ (hE1 _ _ e)))
  · refine k v' h'' tk'' hE'' ?_
    have := (hP _ _ hP').mono (hide_ext hE'')
    rw [hlen] at this
    exact this
end Mine
end PdMPart
section PdNPart
open PySem PySem.W PyProof.Rows
namespace Mine
/-! loops over data -/
structure Own (c : Cx) : Prop where
  l : c.env.locals ∈ c.mu
  cs : ∀ x a, (x, a) ∈ c.env.cells → a ∈ c.mu
  ow : ∀ x r ds, c.ow = some (x, r, ds) → r ∈ c.mu
abbrev Cx.hid (c : Cx) (wr : List Addr) : Cx := { c with mu := wr ++ c.mu }
abbrev Cx.pinned (c : Cx) (ps : List (Addr × Obj)) : Cx := { c with pin := ps }

section
variable {c : Cx} {s₀ s : Shared} {E : Value → Shared → Prop}
theorem St.owned (st : St c s₀ s) : Own c := ⟨st.lmu, st.cmu, fun x r ds h => (st.omu x r ds h).1⟩
theorem St.weak (st : St c s₀ s) (r : Str → Option D) (h : ∀ y d, r y = some d → c.rho y = some d) : St { c with rho := r } s₀ s where
  fr := st.fr
  ok := st.ok
  lmu := st.lmu
  cmu := st.cmu
  omu := st.omu
  pmu := st.pmu
  sv := { gl := st.sv.gl, bound := st.sv.bound, rd := fun y d hy => st.sv.rd y d (h y d hy), own := st.sv.own, pin := st.sv.pin, dat := st.sv.dat }
theorem St.hide (st : St c s₀ s) (wr : List Addr) {h' : Heap} {tk : Nat} (e : Ext s.heap h') (hn : ∀ b ∈ wr, s.heap.get? b = none) (hp : ∀ b ∈ wr, (h'.get? b).isSome = true) : St (c.hid wr) s₀ { s with heap := h', toks := tk } where
  fr := let ⟨m, cm, f⟩ := st.fr; ⟨m, cm, inCallC_ext f e tk⟩
  ok := st.ok
  lmu := List.mem_append_right _ st.lmu
  cmu := fun x a h => List.mem_append_right _ (st.cmu x a h)
  omu := fun x r ds h => ⟨List.mem_append_right _ (st.omu x r ds h).1, (st.omu x r ds h).2⟩
  pmu := st.pmu
  sv := {
    gl := st.sv.gl.ext e
    bound := fun b hb => by
      rcases List.mem_append.mp hb with q | q
      · exact hp b q
      · obtain ⟨o, ho⟩ := Option.isSome_iff_exists.mp (st.sv.bound b q)
        show (h'.get? b).isSome = true
        rw [e b o ho]; rfl
    rd := fun y d hy => let ⟨v, r, p⟩ := st.sv.rd y d hy; ⟨v, r.ext e, p.mono (hide_new hn e)⟩
    own := fun y r ds hy => let ⟨a, vs, n, b, q⟩ := st.sv.own y r ds hy; ⟨a.ext e, vs, n, e _ _ b, q.mono (hide_new hn e)⟩
    pin := fun p hp => e _ _ (st.sv.pin p hp)
    dat := fun v d q => (st.sv.dat v d q).mono (hide_new hn e) }
theorem St.unhide {wr : List Addr} (st : St (c.hid wr) s₀ s) (ow : Own c) : St c s₀ s where
  fr := st.fr
  ok := st.ok
  lmu := ow.l
  cmu := ow.cs
  omu := fun x r ds h => ⟨ow.ow x r ds h, (st.omu x r ds h).2⟩
  pmu := st.pmu
  sv := {
    gl := st.sv.gl
    bound := fun b hb => st.sv.bound b (List.mem_append_right _ hb)
    rd := fun y d hy => let ⟨v, r, p⟩ := st.sv.rd y d hy; ⟨v, r, p.mono (hide_sub fun b hb => List.mem_append_right _ hb)⟩
    own := fun y r ds hy => let ⟨a, vs, n, b, q⟩ := st.sv.own y r ds hy; ⟨a, vs, n, b, q.mono (hide_sub fun b hb => List.mem_append_right _ hb)⟩
    pin := st.sv.pin
    dat := fun v d q => (st.sv.dat v d q).mono (hide_sub fun b hb => List.mem_append_right _ hb) }
theorem St.setPin (st : St c s₀ s) (ps : List (Addr × Obj)) (h1 : ∀ p ∈ ps, s.heap.get? p.1 = some p.2) (h2 : ∀ p ∈ ps, p.1 ∉ c.mu) (ow : Own c) : St (c.pinned ps) s₀ s where
  fr := st.fr
  ok := st.ok
  lmu := st.lmu
  cmu := st.cmu
  omu := st.omu
  pmu := fun p hp => ⟨fun e => h2 p hp (e ▸ ow.l), fun y a hy e => h2 p hp (e ▸ ow.cs y a hy), fun x r ds hx e => h2 p hp (e ▸ ow.ow x r ds hx)⟩
  sv := { gl := st.sv.gl, bound := st.sv.bound, rd := st.sv.rd, own := st.sv.own, pin := h1, dat := st.sv.dat }
theorem St.setPin' (st : St c s₀ s) {mu : List Addr} (ps : List (Addr × Obj)) (h1 : ∀ p ∈ ps, s.heap.get? p.1 = some p.2) (h2 : ∀ p ∈ ps, p.1 ∉ mu) (ow : Own { c with mu := mu }) : St (c.pinned ps) s₀ s where
  fr := st.fr
  ok := st.ok
  lmu := st.lmu
  cmu := st.cmu
  omu := st.omu
  pmu := fun p hp => ⟨fun e => h2 p hp (e ▸ ow.l), fun y a hy e => h2 p hp (e ▸ ow.cs y a hy), fun x r ds hx e => h2 p hp (e ▸ ow.ow x r ds hx)⟩
  sv := { gl := st.sv.gl, bound := st.sv.bound, rd := st.sv.rd, own := st.sv.own, pin := h1, dat := st.sv.dat }
/-- what is hidden moves -/
theorem St.shift {wr : List Addr} (st : St (c.hid wr) s₀ s) (g0 : Gl c.K s₀.heap) (ow : Own c) {h' : Heap} {tk : Nat} (hpin : c.pin = []) (hk : ∀ b o, b ∉ wr → s.heap.get? b = some o → h'.get? b = some o) (hp : ∀ b ∈ wr, (h'.get? b).isSome = true)
    (hfr : ∀ b ∈ wr, s₀.heap.get? b = none) (hwm : ∀ b ∈ wr, b ∉ c.mu) : St (c.hid wr) s₀ { s with heap := h', toks := tk } := by
  obtain ⟨m, cm, f⟩ := st.fr
  have notw : ∀ b, b ∈ c.mu → b ∉ wr := fun b hb q => hwm b q hb
  have keep : Ext s₀.heap h' := fun b o e => hk b o (fun q => by rw [hfr b q] at e; cases e) (f.toInCall.keep b o e)
  have rdk : ∀ y u, Rd c.env s.heap y u → Rd c.env h' y u := fun y u r => by
    rcases r with ⟨h1, m0, hn, hm⟩ | ⟨h1, a, ha, o, ho, hd⟩
    · exact .inl ⟨h1, m0, hn.at' fun o e => hk _ o (notw _ ow.l) e, hm⟩
    · exact .inr ⟨h1, a, ha, o, hk a o (notw _ (ow.cs y a (mem_of_lookup ha))) ho, hd⟩
  have le : Le (PySem.Heap.get? s.heap) (PySem.Heap.get? s.heap) := fun _ _ e => e
  have hle : Le (Mine.hide (wr ++ c.mu) s.heap) (Mine.hide (wr ++ c.mu) h') := fun b o e => by
    obtain ⟨h1, h2⟩ := hide_some e
    exact hide_of h1 (hk b o (fun q => h1 (List.mem_append_left _ q)) h2)
  exact {
    fr := ⟨m, cm, ⟨⟨by obtain ⟨h0, t0, rfl⟩ := f.toInCall.same; exact ⟨h', _, rfl⟩, f.toInCall.ns.at' fun o e => hk _ o (notw _ ow.l) e, keep, f.toInCall.fresh⟩,
      fun k a hk' => by obtain ⟨o, ho, hd⟩ := f.cell k a hk'; exact ⟨o, hk a o (notw _ (ow.cs k a (mem_of_lookup hk'))) ho, hd⟩, f.apart, f.above⟩⟩
    ok := st.ok
    lmu := st.lmu
    cmu := st.cmu
    omu := st.omu
    pmu := st.pmu
    sv := {
      gl := g0.ext keep
      bound := fun b hb => by
        rcases List.mem_append.mp hb with q | q
        · exact hp b q
        · obtain ⟨o, ho⟩ := Option.isSome_iff_exists.mp (st.sv.bound b hb)
          show (h'.get? b).isSome = true
          rw [hk b o (notw b q) ho]; rfl
      rd := fun y d hy => let ⟨v, r, p⟩ := st.sv.rd y d hy; ⟨v, rdk y v r, p.mono hle⟩
      own := fun y r ds hy => let ⟨a, vs, n, b, q⟩ := st.sv.own y r ds hy; ⟨rdk _ _ a, vs, n, hk _ _ (notw _ (ow.ow y r ds hy)) b, q.mono hle⟩
      pin := fun p hp => by have hp' : p ∈ c.pin := hp; rw [hpin] at hp'; cases hp'
      dat := fun v d q => (st.sv.dat v d q).mono hle } }
/-- what is hidden goes -/
theorem St.leave {wr : List Addr} (st : St (c.hid wr) s₀ s) (g0 : Gl c.K s₀.heap) (ow : Own c) {h' : Heap} {tk : Nat} (hpin : c.pin = []) (hk : ∀ b o, b ∉ wr → s.heap.get? b = some o → h'.get? b = some o) (hfr : ∀ b ∈ wr, s₀.heap.get? b = none) (hwm : ∀ b ∈ wr, b ∉ c.mu) : St c s₀ { s with heap := h', toks := tk } := by
  obtain ⟨m, cm, f⟩ := st.fr
  have notw : ∀ b, b ∈ c.mu → b ∉ wr := fun b hb q => hwm b q hb
  have keep : Ext s₀.heap h' := fun b o e => hk b o (fun q => by rw [hfr b q] at e; cases e) (f.toInCall.keep b o e)
  have rdk : ∀ y u, Rd c.env s.heap y u → Rd c.env h' y u := fun y u r => by
    rcases r with ⟨h1, m0, hn, hm⟩ | ⟨h1, a, ha, o, ho, hd⟩
    · exact .inl ⟨h1, m0, hn.at' fun o e => hk _ o (notw _ ow.l) e, hm⟩
    · exact .inr ⟨h1, a, ha, o, hk a o (notw _ (ow.cs y a (mem_of_lookup ha))) ho, hd⟩
  have le : Le (PySem.Heap.get? s.heap) (PySem.Heap.get? s.heap) := fun _ _ e => e
  have hle : Le (Mine.hide (wr ++ c.mu) s.heap) (Mine.hide c.mu h') := fun b o e => by
    obtain ⟨h1, h2⟩ := hide_some e
    exact hide_of (fun q => h1 (List.mem_append_right _ q)) (hk b o (fun q => h1 (List.mem_append_left _ q)) h2)
  exact {
    fr := ⟨m, cm, ⟨⟨by obtain ⟨h0, t0, rfl⟩ := f.toInCall.same; exact ⟨h', _, rfl⟩, f.toInCall.ns.at' fun o e => hk _ o (notw _ ow.l) e, keep, f.toInCall.fresh⟩,
      fun k a hk' => by obtain ⟨o, ho, hd⟩ := f.cell k a hk'; exact ⟨o, hk a o (notw _ (ow.cs k a (mem_of_lookup hk'))) ho, hd⟩, f.apart, f.above⟩⟩
    ok := st.ok
    lmu := ow.l
    cmu := ow.cs
    omu := fun x r ds h => ⟨ow.ow x r ds h, (st.omu x r ds h).2⟩
    pmu := st.pmu
    sv := {
      gl := g0.ext keep
      bound := fun b hb => by
        obtain ⟨o, ho⟩ := Option.isSome_iff_exists.mp (st.sv.bound b (List.mem_append_right _ hb))
        show (h'.get? b).isSome = true
        rw [hk b o (notw b hb) ho]; rfl
      rd := fun y d hy => let ⟨v, r, p⟩ := st.sv.rd y d hy; ⟨v, rdk y v r, p.mono hle⟩
      own := fun y r ds hy => let ⟨a, vs, n, b, q⟩ := st.sv.own y r ds hy; ⟨rdk _ _ a, vs, n, hk _ _ (notw _ (ow.ow y r ds hy)) b, q.mono hle⟩
      pin := fun p hp => by have hp' : p ∈ c.pin := hp; rw [hpin] at hp'; cases hp'
      dat := fun v d q => (st.sv.dat v d q).mono hle } }
def pinsOf (h : Heap) (fp : List Addr) : List (Addr × Obj) := fp.filterMap fun b => (h.get? b).map fun o => (b, o)
theorem pinsOf_mem {h : Heap} {fp : List Addr} {p : Addr × Obj} (hp : p ∈ pinsOf h fp) : p.1 ∈ fp ∧ h.get? p.1 = some p.2 := by
  obtain ⟨b, hb, e⟩ := List.mem_filterMap.mp hp
  cases ho : h.get? b with
  | none => rw [ho] at e; cases e
  | some o => rw [ho] at e; cases e; exact ⟨hb, ho⟩
theorem mem_pinsOf {h : Heap} {fp : List Addr} {b : Addr} {o : Obj} (hb : b ∈ fp) (ho : h.get? b = some o) : (b, o) ∈ pinsOf h fp := List.mem_filterMap.mpr ⟨b, hb, by rw [ho]; rfl⟩

theorem St.setDat (st : St c s₀ s) (dt : Value → D → Prop) (h : ∀ v d, dt v d → Rep (Mine.hide c.mu s.heap) v d) : St { c with dat := dt } s₀ s where
  fr := st.fr
  ok := st.ok
  lmu := st.lmu
  cmu := st.cmu
  omu := st.omu
  pmu := st.pmu
  sv := { gl := st.sv.gl, bound := st.sv.bound, rd := st.sv.rd, own := st.sv.own, pin := st.sv.pin, dat := h }
theorem St.plain {ps : List (Addr × Obj)} {dt : Value → D → Prop} (st : St { c with pin := ps, dat := dt } s₀ s) (hp : c.pin = []) (hd : ∀ v d, ¬ c.dat v d) : St c s₀ s where
  fr := st.fr
  ok := st.ok
  lmu := st.lmu
  cmu := st.cmu
  omu := st.omu
  pmu := fun p h => by rw [hp] at h; cases h
  sv := { gl := st.sv.gl, bound := st.sv.bound, rd := st.sv.rd, own := st.sv.own, pin := fun p h => absurd h (by rw [hp]; exact List.not_mem_nil), dat := fun v d q => (hd v d q).elim }

/-- for x in iter: -/
theorem St.for_ {d0 : D} {src : List D} {iter : Expr} {body rest : List Stmt} {x : Str} {px p : Pos} {Q : Flow → Shared → Prop} (rf : Nat → Str → Option D) (of : Nat → Option (Str × Addr × List D)) (Inv Bk : Nat → Prop) (rb : Nat → Str → Option D)
    (st : St c s₀ s) (g0 : Gl c.K s₀.heap) (hpin : c.pin = []) (hdat : ∀ v d, ¬ c.dat v d) (hi : Ev c iter d0) (it : Itr c d0 src) (hx : c.env.kindOf x = some .local)
    (hfs : ∀ v, foldedSetIterable iter c.env v = pure v)
    (hof : ∀ i y r ds, of i = some (y, r, ds) → y ≠ x ∧ ∃ ds0, c.ow = some (y, r, ds0))
    (h0 : ∀ y d, rf 0 y = some d → c.rho y = some d) (ho0 : of 0 = c.ow) (hI : Inv 0)
    (turn : ∀ (wr : List Addr) (pins : List (Addr × Obj)) (dt : Value → D → Prop) (i : Nat) (d : D) (s' : Shared) (E' : Value → Shared → Prop), src[i]? = some d → Inv i → St ({ c with rho := upd (rf i) x d, ow := of i, mu := wr ++ c.mu, pin := pins, dat := dt }) s₀ s' →
      wpAny c.M c.A (execs body c.env) (fun f s'' => match f with
        | .next | .cont => Inv (i + 1) ∧ St ({ c with rho := rf (i + 1), ow := of (i + 1), mu := wr ++ c.mu, pin := pins, dat := dt }) s₀ s''
        | .brk => Bk i ∧ St ({ c with rho := rb i, ow := of i, mu := wr ++ c.mu, pin := pins, dat := dt }) s₀ s''
        | .ret v => Q (.ret v) s'') E' s')
    (hb : ∀ i s', Bk i → St ({ c with rho := rb i, ow := of i }) s₀ s' → wpAny c.M c.A (execs rest c.env) Q E s')
    (hr : ∀ s', Inv src.length → St ({ c with rho := rf src.length, ow := of src.length }) s₀ s' → wpAny c.M c.A (execs rest c.env) Q E s') :
    wpAny c.M c.A (execs (.For (.Name x px) iter body [] p :: rest) c.env) Q E s := by
  refine wpAny_execs_cons (wpAny_For (hi.run s _ _ st.sv fun v h₁ tk₁ e₁ pv => ?_) hfs)
  have st₁ := st.ext e₁ tk₁
  refine it.run _ v _ _ st₁.sv pv fun I fp P Stt h₂ tk₂ W e₂ hI0 hpr hP hst hfp => ?_
  have ow₀ : Own c := st.owned
  generalize hdt : (fun v d => Rep (Mine.hide c.mu h₁) v d) = dt
  have ow : ∀ i, Own { c with rho := rf i, ow := of i, dat := dt } := fun i => ⟨ow₀.l, ow₀.cs, fun y r ds hy => by obtain ⟨_, ds0, h⟩ := hof i y r ds hy; exact ow₀.ow y r ds0 h⟩
  have hIw : ∀ b ∈ [I], b ∉ c.mu := fun b hb => (hfp b (W.sub b hb)).2
  have s0I : ∀ b ∈ [I], s₀.heap.get? b = none := fun b hb => by
    rcases List.mem_singleton.mp hb with rfl
    obtain ⟨m, cm, f⟩ := st₁.fr
    cases e : s₀.heap.get? b with
    | none => rfl
    | some o => have := f.toInCall.keep b o e; have this' : h₁.get? b = some o := this; rw [hI0] at this'; cases this'
  have stH : St (({ c with rho := rf 0, ow := of 0, dat := dt } : Cx).hid [I]) s₀ { s with heap := h₂, toks := tk₂ } := by
    have := St.hide (tk := tk₂) ((st₁.weak (rf 0) h0).setDat dt (fun v d q => by subst hdt; exact q)) [I] e₂ (fun b hb => by rcases List.mem_singleton.mp hb with rfl; exact hI0) (fun b hb => by rcases List.mem_singleton.mp hb with rfl; exact hpr 0 h₂ hst)
    rw [ho0]; exact this
  have fin : ∀ rh o s', (∀ y r ds, o = some (y, r, ds) → ∃ ds0, c.ow = some (y, r, ds0)) → ∀ ps, St ((({ c with rho := rh, ow := o, dat := dt } : Cx).hid [I]).pinned ps) s₀ s' → St { c with rho := rh, ow := o } s₀ s' := fun rh o s' ho ps q => by
    have q1 : St ((({ c with rho := rh, ow := o } : Cx).hid [I])) s₀ s' := St.plain (c := (({ c with rho := rh, ow := o } : Cx).hid [I])) (ps := ps) (dt := dt) q hpin hdat
    exact q1.unhide ⟨ow₀.l, ow₀.cs, fun y r ds hy => by obtain ⟨ds0, h⟩ := ho y r ds hy; exact ow₀.ow y r ds0 h⟩
  refine codeAny_forLoop (fun k s' => ∃ i, k = src.length + 1 - i ∧ i ≤ src.length ∧ Stt i s'.heap ∧ Inv i ∧ St (({ c with rho := rf i, ow := of i, dat := dt } : Cx).hid [I]) s₀ s') ?_ (src.length + 1) ⟨0, rfl, Nat.zero_le _, hst, hI, stH⟩
  rintro k s₁ ⟨i, rfl, hi', hst₁, hInv, stI⟩
  by_cases hlt : i < src.length
  · refine W.item i s₁ _ _ hlt hst₁ fun v h₃ tk₃ hPv hst₃ hk₃ => ?_
    obtain ⟨d, hd, pd⟩ := hP i v hPv
    have pres₃ : ∀ b ∈ [I], (h₃.get? b).isSome = true := fun b hb => by rcases List.mem_singleton.mp hb with rfl; exact hpr (i + 1) h₃ hst₃
    have st₃ := stI.shift (tk := tk₃) g0 (ow i) hpin hk₃ pres₃ s0I hIw
    have st₄ : St ((({ c with rho := rf i, ow := of i, dat := dt } : Cx).hid [I]).pinned (pinsOf h₃ fp)) s₀ { s₁ with heap := h₃, toks := tk₃ } :=
      st₃.setPin' (mu := c.mu) _ (fun p hp => (pinsOf_mem hp).2) (fun p hp => (hfp _ (pinsOf_mem hp).1).2) ⟨(ow i).l, (ow i).cs, (ow i).ow⟩
    have pd' := st₃.sv.dat v d (by subst hdt; exact pd)
    refine wpAny_assign_Name (st₄.store g0 (.inl hx) pd' (fun y r ds hy => (hof i y r ds hy).1) fun s₄ st₅ => ?_)
    refine wpAny_mono (turn [I] _ dt i d s₄ _ hd hInv st₅) (fun f s₅ hf => ?_) fun _ _ e => e
    have go : Inv (i + 1) ∧ St ({ c with rho := rf (i + 1), ow := of (i + 1), mu := [I] ++ c.mu, pin := pinsOf h₃ fp, dat := dt }) s₀ s₅ → ∃ m, m < src.length + 1 - i ∧ ∃ i, m = src.length + 1 - i ∧ i ≤ src.length ∧ Stt i s₅.heap ∧ Inv i ∧ St (({ c with rho := rf i, ow := of i, dat := dt } : Cx).hid [I]) s₀ s₅ := by
      rintro ⟨q1, q2⟩
      refine ⟨src.length + 1 - (i + 1), by omega, i + 1, rfl, hlt, W.frame _ _ _ hst₃ fun b hb o e => q2.sv.pin _ (mem_pinsOf hb e), q1, ?_⟩
      exact {
        fr := q2.fr
        ok := q2.ok
        lmu := q2.lmu
        cmu := q2.cmu
        omu := q2.omu
        pmu := fun p h => by have h' : p ∈ c.pin := h; rw [hpin] at h'; cases h'
        sv := { gl := q2.sv.gl, bound := q2.sv.bound, rd := q2.sv.rd, own := q2.sv.own, pin := fun p h => absurd (show p ∈ c.pin from h) (by rw [hpin]; exact List.not_mem_nil), dat := q2.sv.dat } }
    cases f with
    | next => exact go hf
    | cont => exact go hf
    | brk => exact hb i s₅ hf.1 (fin _ _ _ (fun y r ds hy => (hof i y r ds hy).2) _ hf.2)
    | ret v => exact hf
  · have hin : i = src.length := Nat.le_antisymm hi' (Nat.not_lt.mp hlt)
    subst hin
    refine W.done s₁ _ _ hst₁ fun h₃ tk₃ hk₃ => wpAny_execs_nil ?_
    have q := stI.leave (tk := tk₃) g0 (ow _) hpin hk₃ s0I hIw
    exact hr _ hInv (St.plain (c := { c with rho := rf src.length, ow := of src.length }) (ps := c.pin) (dt := dt) q hpin hdat)
end
end Mine
end PdNPart
section PdOPart
open PySem PySem.W PyProof.Rows
namespace Mine
section
variable {c : Cx}
theorem BinR.addL {xs ys : List D} (h : xs.length + ys.length ≤ 100000) : BinR c .Add (.list xs) (.list ys) (.list (xs ++ ys)) := by
  refine ⟨?_⟩
  intro s x y Q E sv pa pb k
  obtain ⟨a, vs, rfl, ha, hl, r1⟩ := pa.listE
  obtain ⟨b, us, rfl, hb, hl', r2⟩ := pb.listE
  have e1 : vs.size = xs.length := by simpa using r1.length
  have e2 : us.size = ys.length := by simpa using r2.length
  obtain ⟨⟨cls, dd, data, sl⟩, ho, hc, n, hd⟩ := id hl
  obtain ⟨⟨cls2, dd2, data2, sl2⟩, ho2, hc2, n2, hd2⟩ := id hl'
  simp only at hc hd hc2 hd2
  subst hc hd hc2 hd2
  refine concat_meets ⟨_, ho, rfl⟩ ⟨_, ho2, rfl⟩ noFill_list_add seq_list_add PySem.F.slot_list_add PySem.F.entry_list_add (PySem.F.args_list_add_2 _ _) (list_addW a b vs us n n2 dd dd2 sl sl2 (sz _ (by omega))) ⟨ho, ho2, ?_⟩
  refine k _ _ s.toks (Ext.push _ _) (Rep.ofList (vs := vs ++ us) (sv.fresh (Nat.le_refl _)) ⟨_, Heap.get?_push_size _ rfl, rfl, _, rfl⟩ ?_)
  rw [Array.toList_append]
  exact (r1.append r2).mono (hide_ext (Ext.push _ _))
theorem isEmpty_len {vs : Array Value} {ds : List D} (h : vs.size = ds.length) : (!vs.isEmpty) = (ds.length != 0) := by
  rw [Array.isEmpty, h]
  cases ds with
  | nil => rfl
  | cons a r => simp
theorem Tr.valL {e : Expr} {ds : List D} (h1 : Ev c e (.list ds)) (hx : ds.length ≤ 100000) (he : ∀ whole : Sem Value, isTrue e c.env whole = (do let v ← whole; standAt e.pos; holding [v] (truthy v))) : Tr c e (ds.length != 0) := by
  refine ⟨?_⟩
  intro s Q E sv h
  refine wpAny_isTrue_value (h1.run s _ _ sv fun v h' tk y p => ?_) (he _)
  obtain ⟨a, vs, rfl, ha, hl, rs⟩ := p.listE
  have e1 : vs.size = ds.length := by simpa using rs.length
  refine wpAny_truthy_list hl (by omega) ?_
  rw [isEmpty_len e1]
  exact h h' (tk + 1 + 1) y
theorem Tr.valT {e : Expr} {ds : List D} (h1 : Ev c e (.tup ds)) (hx : ds.length ≤ 100000) (he : ∀ whole : Sem Value, isTrue e c.env whole = (do let v ← whole; standAt e.pos; holding [v] (truthy v))) : Tr c e (ds.length != 0) := by
  refine ⟨?_⟩
  intro s Q E sv h
  refine wpAny_isTrue_value (h1.run s _ _ sv fun v h' tk y p => ?_) (he _)
  obtain ⟨a, vs, rfl, ha, hl, rs⟩ := p.tupE
  have e1 : vs.size = ds.length := by simpa using rs.length
  refine truthy_tuple hl (by omega) ?_
  rw [isEmpty_len e1]
  exact h h' (tk + 1 + 1) y
theorem Bi.max2 {a b : Int} (hh : c.A.handled = none) : Bi c (.builtin "max") [.int a, .int b] (.int (if b > a then b else a)) := by
  refine ⟨?_⟩
  intro s vs Q E sv r k; obtain ⟨v, v', rfl, p, q⟩ := r.two; obtain ⟨t, rfl⟩ := p.intE; obtain ⟨u, rfl⟩ := q.intE
  refine max_two_ints hh fun h' tk e => ?_
  have := fun v hv => k v h' tk e hv
  by_cases h : b > a
  · rw [if_pos h] at this ⊢; exact this _ (.int _ _)
  · rw [if_neg h] at this ⊢; exact this _ (.int _ _)
theorem Reps.consE' {P : PH} {vs : List Value} {d : D} {ds : List D} (r : Reps P vs (d :: ds)) : ∃ v vs', vs = v :: vs' ∧ Rep P v d ∧ Reps P vs' ds := by
  cases r with | cons p r => exact ⟨_, _, rfl, p, r⟩
theorem Bi.range3 {a b st : Int} (hc : st ≠ 0) (hp : Builtin.divisionGoesByPylong (b - a) st = false) : Bi c (.type "range") [.int a, .int b, .int st] (.rng a b st) := by
  refine ⟨?_⟩
  intro s vs Q E sv r k
  obtain ⟨v1, l1, rfl, p1, r⟩ := r.consE'
  obtain ⟨v2, v3, rfl, p2, p3⟩ := r.two
  obtain ⟨t, rfl⟩ := p1.intE; obtain ⟨u, rfl⟩ := p2.intE; obtain ⟨w, rfl⟩ := p3.intE
  exact call_range_3 hc (k _ _ s.toks (Ext.push _ _) (.rng (hide_of (sv.fresh (Nat.le_refl _)) (Heap.get?_push_size _ rfl)))) (.inl hp)
theorem Ev.itemT {v i : Expr} {pos : Pos} {ds : List D} {d : D} (hv : Ev c v (.tup ds)) (hi : Ev c i (.int 0)) (hk : ds[0]? = some d) (hn : ds.length ≤ 100000) : Ev c (.Subscript v i pos) d := by
  refine ⟨?_⟩
  intro s Q E sv h
  refine wpAny_Sub rfl slot_tuple_getitem.lookup (hv.run s _ _ sv fun a h' tk x p => hi.run _ _ _ (sv.ext x) fun b h'' tk' x' p' => ?_)
  obtain ⟨a, vs, rfl, ha, hl, rs⟩ := (p.mono (hide_ext x')).tupE
  obtain ⟨t, rfl⟩ := p'.intE
  obtain ⟨y, hy, py⟩ := rs.get hk
  have hT : Heap.IsTuple h'' a vs := hl
  have hsz : vs.size = ds.length := by simpa using rs.length
  have h0 : 0 < vs.size := by rw [hsz]; exact (List.getElem?_eq_some_iff.mp hk).1
  refine ⟨hT.typeIs, getItem_tuple (j := 0) hl (by omega) (by omega) ?_ (by simpa using hy) (h _ _ _ (x.trans x') py)⟩
  rw [StrLaws.seqIndex_nonneg (by omega) (by omega)]; rfl
end
end Mine
end PdOPart
section PdQPart
open PySem PySem.W PyProof.Rows
namespace Mine
section
variable {c : Cx} {s₀ s : Shared} {E : Value → Shared → Prop}
theorem call_enum {l : Addr} {items : Array Value} {prog : Program} {w : World} {A : Around} {Q : Value → Shared → Prop} (hL : s.heap.IsList l items)
    (h : ∀ h' e it, IsEnum h' e it 0 .none → h'.IsListIter it l 0 → e ≠ it → s.heap.get? e = none → s.heap.get? it = none → e < h'.objs.size → it < h'.objs.size → Ext s.heap h' → Q (.ref e) { s with heap := h' }) :
    wpAny (model prog w) A (call (.type "enumerate") [.ref l]) Q E s := by
  refine call_enumerate_list hL fun h' he hit hsz hk => h h' _ _ he hit (Nat.succ_ne_self _) ?_ ?_ (by rw [hsz]; exact Nat.lt_succ_self _) (by rw [hsz]; exact Nat.lt_succ_of_lt (Nat.lt_succ_self _)) hk
  · cases e : s.heap.get? (s.heap.objs.size + 1) with
    | none => rfl
    | some o => exact absurd (Heap.lt_size e) (Nat.not_lt.mpr (Nat.le_succ _))
  · exact none_at_size _

/-- for i, x in enumerate(arg): -/
theorem St.forEnum {src : List D} {f : Str} {fp' cp : Pos} {arg : Expr} {body rest : List Stmt} {x y : Str} {px py pt p : Pos} {k0 : Nat} {Q : Flow → Shared → Prop} (rf : Nat → Str → Option D) (Inv Bk : Nat → Prop) (rb : Nat → Str → Option D)
    (st : St c s₀ s) (g0 : Gl c.K s₀.heap) (hh : c.A.handled = none) (hpin : c.pin = []) (hdat : ∀ v d, ¬ c.dat v d) (how : c.ow = none)
    (hf : nsIn c.K mainGlobals f = some none) (hv : bootBuiltins f = some (.type "enumerate")) (hn : f ≠ Str.ofString "__name__") (hk : c.env.kindOf f = some .globalImplicit) (hd : (f == ("__debug__" : Str)) = false)
    (hi : Ev c arg (.list src)) (hst : starEach [arg] c.env = [(false, eval arg c.env)]) (hx : c.env.kindOf x = some .local) (hy : c.env.kindOf y = some .local)
    (hfs : ∀ v, foldedSetIterable (.Call (.Name f fp') [arg] [] cp) c.env v = pure v)
    (h0 : ∀ y d, rf 0 y = some d → c.rho y = some d) (hI : Inv 0)
    (turn : ∀ (wr : List Addr) (pins : List (Addr × Obj)) (dt : Value → D → Prop) (i : Nat) (d : D) (s' : Shared) (E' : Value → Shared → Prop), src[i]? = some d → Inv i → St ({ c with rho := upd (upd (rf i) x (.int i)) y d, mu := wr ++ c.mu, pin := pins, dat := dt }) s₀ s' →
      wpAny c.M c.A (execs body c.env) (fun f s'' => match f with
        | .next | .cont => Inv (i + 1) ∧ St ({ c with rho := rf (i + 1), mu := wr ++ c.mu, pin := pins, dat := dt }) s₀ s''
        | .brk => Bk i ∧ St ({ c with rho := rb i, mu := wr ++ c.mu, pin := pins, dat := dt }) s₀ s''
        | .ret v => Q (.ret v) s'') E' s')
    (hb : ∀ i s', Bk i → St ({ c with rho := rb i }) s₀ s' → wpAny c.M c.A (execs rest c.env) Q E s')
    (hr : ∀ s', Inv src.length → St ({ c with rho := rf src.length }) s₀ s' → wpAny c.M c.A (execs rest c.env) Q E s') :
    wpAny c.M c.A (execs (.For (.Tuple [.Name x px, .Name y py] k0 pt) (.Call (.Name f fp') [arg] [] cp) body [] p :: rest) c.env) Q E s := by
  refine wpAny_execs_cons (wpAny_For ?_ hfs)
  obtain ⟨mg, hg, hm⟩ := st.sv.gl.g
  obtain ⟨mb, hgb, hmb⟩ := st.sv.gl.b
  refine wpAny_Call_Name_kw (Calls.Name_function_global st.ok.fn hk (Calls.loadGlobal_builtin (by rw [st.ok.gg]; exact hg) (hm _ _ hf) (by rw [st.ok.bb]; exact hgb) ((hmb f hn).trans hv) ?_) hd)
  have hany : (backTo cp (starEach [arg] c.env)).any (·.1) = false := by rw [hst]; rfl
  refine PyProof.Rows.callWith_type hany (evalArgs_of _ (Evs.one hi hst) (by rw [hst]; rfl) cp s _ _ st.sv fun vs h₁ tk₁ e₁ ps => ?_)
  obtain ⟨v, rfl, pv⟩ := ps.one
  have st₁ := st.ext e₁ tk₁
  obtain ⟨ax, items, rfl, hax, hl, rs⟩ := pv.listE
  refine call_enum hl fun h₂ e it he hit hei he0 hit0 hez hitz e₂ => ?_
  have hlen : items.size = src.length := by simpa using rs.length
  have hax1 : ∃ o, h₁.get? ax = some o := by obtain ⟨o, ho, _⟩ := hl; exact ⟨o, ho⟩
  have hle : ax ≠ e := by rintro rfl; obtain ⟨o, ho⟩ := hax1; rw [show h₁.get? ax = none from he0] at ho; cases ho
  have hli : ax ≠ it := by rintro rfl; obtain ⟨o, ho⟩ := hax1; rw [show h₁.get? ax = none from hit0] at ho; cases ho
  have W := WalksT.enumerate (prog := c.prog) (w := c.w) (A := c.A) hh e it ax hei hle hli items
  have hst : (∃ old, IsEnum h₂ e it ((0 : Nat) : Int) old) ∧ h₂.IsListIter it ax 0 ∧ h₂.IsList ax items := ⟨⟨_, he⟩, hit, by obtain ⟨o, ho, r⟩ := hl; exact ⟨o, e₂ _ _ ho, r⟩⟩
  have ow₀ : Own c := st.owned
  generalize hdt : (fun v d => Rep (Mine.hide c.mu h₁) v d) = dt
  have ow : ∀ i, Own { c with rho := rf i, dat := dt } := fun i => ⟨ow₀.l, ow₀.cs, ow₀.ow⟩
  have nmu : ∀ b, h₁.get? b = none → b ∉ c.mu := fun b hb q => by obtain ⟨o, ho⟩ := Option.isSome_iff_exists.mp (st₁.sv.bound b q); rw [show ({ s with heap := h₁, toks := tk₁ } : Shared).heap = h₁ from rfl, hb] at ho; cases ho
  have hIw : ∀ b ∈ [e, it], b ∉ c.mu := fun b hb => by
    rcases List.mem_cons.mp hb with rfl | hb
    · exact nmu _ he0
    · rcases List.mem_singleton.mp hb with rfl; exact nmu _ hit0
  have fpm : ∀ b ∈ [e, it, ax], b ∉ c.mu := fun b hb => by
    rcases List.mem_cons.mp hb with rfl | hb
    · exact nmu _ he0
    · rcases List.mem_cons.mp hb with rfl | hb
      · exact nmu _ hit0
      · rcases List.mem_singleton.mp hb with rfl; exact hax
  have s0I : ∀ b ∈ [e, it], s₀.heap.get? b = none := fun b hb => by
    have hb0 : h₁.get? b = none := by
      rcases List.mem_cons.mp hb with rfl | hb
      · exact he0
      · rcases List.mem_singleton.mp hb with rfl; exact hit0
    obtain ⟨m, cm, f⟩ := st₁.fr
    cases e : s₀.heap.get? b with
    | none => rfl
    | some o => have := f.toInCall.keep b o e; have this' : h₁.get? b = some o := this; rw [hb0] at this'; cases this'
  have pres : ∀ i h, ((∃ old, IsEnum h e it ((i : Nat) : Int) old) ∧ h.IsListIter it ax i ∧ h.IsList ax items) → ∀ b ∈ [e, it], (h.get? b).isSome = true := fun i h hst b hb => by
    rcases List.mem_cons.mp hb with rfl | hb
    · obtain ⟨⟨old, q⟩, _⟩ := hst; rw [q]; rfl
    · rcases List.mem_singleton.mp hb with rfl; obtain ⟨_, ⟨o, ho, _⟩, _⟩ := hst; rw [ho]; rfl
  have stH : St (({ c with rho := rf 0, dat := dt } : Cx).hid [e, it]) s₀ { s with heap := h₂, toks := tk₁ } := by
    have := St.hide (tk := tk₁) ((st₁.weak (rf 0) h0).setDat dt (fun v d q => by subst hdt; exact q)) [e, it] e₂ (fun b hb => by
      rcases List.mem_cons.mp hb with rfl | hb
      · exact he0
      · rcases List.mem_singleton.mp hb with rfl; exact hit0) (pres 0 h₂ hst)
    exact this
  have fin : ∀ rh s', ∀ ps, St ((({ c with rho := rh, dat := dt } : Cx).hid [e, it]).pinned ps) s₀ s' → St { c with rho := rh } s₀ s' := fun rh s' ps q => by
    have q1 : St ((({ c with rho := rh } : Cx).hid [e, it])) s₀ s' := St.plain (c := (({ c with rho := rh } : Cx).hid [e, it])) (ps := ps) (dt := dt) q hpin hdat
    exact q1.unhide ⟨ow₀.l, ow₀.cs, ow₀.ow⟩
  refine W.self 0 _ _ _ hst ?_
  refine codeAny_forLoop_any (fun k s' => ∃ i, k = src.length + 1 - i ∧ i ≤ src.length ∧ ((∃ old, IsEnum s'.heap e it ((i : Nat) : Int) old) ∧ s'.heap.IsListIter it ax i ∧ s'.heap.IsList ax items) ∧ Inv i ∧ St (({ c with rho := rf i, dat := dt } : Cx).hid [e, it]) s₀ s') ?_ (src.length + 1) ⟨0, rfl, Nat.zero_le _, hst, hI, stH⟩
  rintro k s₁ ⟨i, rfl, hi', hst₁, hInv, stI⟩
  by_cases hlt : i < src.length
  · refine W.item i s₁ _ _ (by omega) hst₁ fun T vals h₃ tk₃ hPv hTs hT hMid hk₃ => ?_
    obtain ⟨t, xv, hxv, rfl⟩ := hPv
    refine W.go _ k0 pt i T _ _ _ hMid fun h₄ hst₄ hk₄ => ?_
    have hT₄ : h₄.IsTuple T #[.int i t, xv] := hT.at fun o e => hk₄ T o (W.apart i T h₃ hMid) e
    have st₄ := stI.shift (h' := h₄) (tk := tk₃) g0 (ow i) hpin (fun b o hb q => hk₄ b o hb (hk₃ b o hb q)) (pres _ _ hst₄) s0I hIw
    refine wpAny_assign_Tuple hh hT₄ rfl rfl fun h₅ hx₅ => ?_
    have hx₅' : Heap.ExtBut h₄.objs.size h₄ h₅ := hx₅
    have e₅ : Ext h₄ h₅ := fun b o q => hx₅' b o (Nat.ne_of_lt (Heap.lt_size q)) q
    have hst₅ := W.frame (i + 1) h₄ h₅ hst₄ fun b _ o q => e₅ b o q
    have st₅ := st₄.ext e₅ tk₃
    have st₆ : St ((({ c with rho := rf i, dat := dt } : Cx).hid [e, it]).pinned (pinsOf h₅ [e, it, ax])) s₀ { s₁ with heap := h₅, toks := tk₃ } :=
      st₅.setPin' (mu := c.mu) _ (fun p hp => (pinsOf_mem hp).2) (fun p hp => fpm _ (pinsOf_mem hp).1) ⟨(ow i).l, (ow i).cs, (ow i).ow⟩
    obtain ⟨d, hd, pd⟩ := reps_at_some rs i xv hxv
    show wpAny _ c.A (do holding [xv] (PySem.assign (.Name x px) c.env (.int i t)); do holding [] (PySem.assign (.Name y py) c.env xv); pure ()) _ _ _
    refine wpAny_bind (wpAny_holding (wpAny_assign_Name (st₆.store g0 (.inl hx) (.int _ _) (fun y r ds hy => by have hy' : c.ow = _ := hy; rw [how] at hy'; cases hy') fun s₇ st₇ => ?_)))
    have pd' := st₇.sv.dat xv d (by subst hdt; exact pd)
    refine wpAny_bind (wpAny_holding (wpAny_assign_Name (st₇.store g0 (.inl hy) pd' (fun y r ds hy => by have hy' : c.ow = _ := hy; rw [how] at hy'; cases hy') fun s₈ st₈ => wpAny_pure ?_)))
    refine wpAny_mono (turn [e, it] _ dt i d s₈ _ hd hInv st₈) (fun f s₉ hf => ?_) fun _ _ e => e
    have go : Inv (i + 1) ∧ St ({ c with rho := rf (i + 1), mu := [e, it] ++ c.mu, pin := pinsOf h₅ [e, it, ax], dat := dt }) s₀ s₉ → ∃ m, m < src.length + 1 - i ∧ ∃ i, m = src.length + 1 - i ∧ i ≤ src.length ∧ ((∃ old, IsEnum s₉.heap e it ((i : Nat) : Int) old) ∧ s₉.heap.IsListIter it ax i ∧ s₉.heap.IsList ax items) ∧ Inv i ∧ St (({ c with rho := rf i, dat := dt } : Cx).hid [e, it]) s₀ s₉ := by
      rintro ⟨q1, q2⟩
      refine ⟨src.length + 1 - (i + 1), by omega, i + 1, rfl, hlt, W.frame _ _ _ hst₅ fun b hb o e => q2.sv.pin _ (mem_pinsOf hb e), q1, ?_⟩
      exact {
        fr := q2.fr
        ok := q2.ok
        lmu := q2.lmu
        cmu := q2.cmu
        omu := q2.omu
        pmu := fun p h => by have h' : p ∈ c.pin := h; rw [hpin] at h'; cases h'
        sv := { gl := q2.sv.gl, bound := q2.sv.bound, rd := q2.sv.rd, own := q2.sv.own, pin := fun p h => absurd (show p ∈ c.pin from h) (by rw [hpin]; exact List.not_mem_nil), dat := q2.sv.dat } }
    cases f with
    | next => exact go hf
    | cont => exact go hf
    | brk => exact hb i s₉ hf.1 (fin _ _ _ hf.2)
    | ret v => exact hf
  · have hin : i = src.length := Nat.le_antisymm hi' (Nat.not_lt.mp hlt)
    subst hin
    refine W.done s₁ _ _ (by rw [hlen]; exact hst₁) fun h₃ tk₃ hk₃ => wpAny_execs_nil ?_
    have q := stI.leave (tk := tk₃) g0 (ow _) hpin hk₃ s0I hIw
    exact hr _ hInv (St.plain (c := { c with rho := rf src.length }) (ps := c.pin) (dt := dt) q hpin hdat)

/-- a try whose body raises nothing -/
theorem St.try_ {body rest : List Stmt} {h₁ : ExceptHandler} {hs : List ExceptHandler} {p : Pos} {Q : Flow → Shared → Prop}
    (hb : ∀ E' : Value → Shared → Prop, wpAny c.M c.A (execs body c.env) (fun f s₁ => match f with | .next => wpAny c.M c.A (execs rest c.env) Q E s₁ | f => Q f s₁) E' s) :
    wpAny c.M c.A (execs (.Try body (h₁ :: hs) [] [] p :: rest) c.env) Q E s := by
  refine wpAny_execs_cons (wpAny_Try_except (wpAny_mono (hb _) (fun f s₁ hf => ?_) fun _ _ e => e))
  cases f with
  | next => exact wpAny_execs_nil hf
  | cont => exact hf
  | brk => exact hf
  | ret v => exact hf
end
theorem envC {env : Env} {scope : Scope} {cl : List (Str × Addr)} {C : Addr} (ok : EnvOk env) (hk : scope.kind = .function) : EnvOk (compEnvC scope cl C env) := ⟨hk, ok.gg, ok.bb⟩
theorem Free.zero {c : Cx} {scope : Scope} {cl : List (Str × Addr)} : Free c scope cl (fun _ => none) := fun y d h => by cases h
theorem Free.one {c : Cx} {scope : Scope} {cl : List (Str × Addr)} {n : Str} {d : D} (h1 : c.rho n = some d) (h2 : ∀ C, (compEnvC scope cl C c.env).kindOf n = some .cell ∨ (compEnvC scope cl C c.env).kindOf n = some .free) (h3 : c.env.kindOf n = some .cell ∨ c.env.kindOf n = some .free) (h4 : cl.lookup n = c.env.cells.lookup n) : Free c scope cl (rho1 n d) := fun y e h => by
  unfold rho1 at h
  by_cases hy : y = n
  · subst hy; rw [if_pos rfl] at h; cases h; exact ⟨h1, h2, h3, h4⟩
  · rw [if_neg hy] at h; cases h
theorem Free.two {c : Cx} {scope : Scope} {cl : List (Str × Addr)} {n n' : Str} {d d' : D} (h1 : c.rho n = some d) (h2 : ∀ C, (compEnvC scope cl C c.env).kindOf n = some .cell ∨ (compEnvC scope cl C c.env).kindOf n = some .free) (h3 : c.env.kindOf n = some .cell ∨ c.env.kindOf n = some .free) (h4 : cl.lookup n = c.env.cells.lookup n)
    (k1 : c.rho n' = some d') (k2 : ∀ C, (compEnvC scope cl C c.env).kindOf n' = some .cell ∨ (compEnvC scope cl C c.env).kindOf n' = some .free) (k3 : c.env.kindOf n' = some .cell ∨ c.env.kindOf n' = some .free) (k4 : cl.lookup n' = c.env.cells.lookup n') : Free c scope cl (rho2 n d n' d') := fun y e h => by
  unfold rho2 at h
  by_cases hy : y = n
  · subst hy; rw [if_pos rfl] at h; cases h; exact ⟨h1, h2, h3, h4⟩
  · rw [if_neg hy] at h
    by_cases hy' : y = n'
    · subst hy'; rw [if_pos rfl] at h; cases h; exact ⟨k1, k2, k3, k4⟩
    · rw [if_neg hy'] at h; cases h
theorem upd_weak2 {r : Str → Option D} {a b : Str} {da db : D} (ha : r a = none) (hb : r b = none) : ∀ z e, r z = some e → upd (upd r a da) b db z = some e := fun z e h => by
  show (if z = b then some db else (if z = a then some da else r z)) = some e
  by_cases h1 : z = b
  · subst h1; rw [hb] at h; cases h
  · by_cases h2 : z = a
    · subst h2; rw [ha] at h; cases h
    · rw [if_neg h1, if_neg h2]; exact h
theorem upd_weak1 {r : Str → Option D} {a : Str} {da : D} (ha : r a = none) : ∀ z e, r z = some e → upd r a da z = some e := fun z e h => by
  show (if z = a then some da else r z) = some e
  by_cases h2 : z = a
  · subst h2; rw [ha] at h; cases h
  · rw [if_neg h2]; exact h
theorem upd_mono {r r' : Str → Option D} (h : ∀ z e, r z = some e → r' z = some e) (x : Str) (d : D) : ∀ z e, upd r x d z = some e → upd r' x d z = some e := fun z e hz => by
  have hz' : (if z = x then some d else r z) = some e := hz
  show (if z = x then some d else r' z) = some e
  by_cases h1 : z = x
  · rw [if_pos h1] at hz' ⊢; exact hz'
  · rw [if_neg h1] at hz' ⊢; exact h z e hz'
theorem filter_true {α : Type} (l : List α) : l.filter (fun _ => true) = l := List.filter_eq_self.mpr fun _ _ => rfl
end Mine
end PdQPart
section PdUPart
open PySem PySem.W PyProof.Rows
namespace Mine
/-! the set {True} -/
section
variable {prog : Program} {w : World} {A : Around} {E : Value → Shared → Prop} {s : Shared}
theorem pyHash_true {Q : Int → Shared → Prop} (h : Q 1 { s with toks := s.toks + 1 }) : wpAny (model prog w) A (pyHash (.bool true)) Q E s := by
  have hT : s.TypeIs (.bool true) "bool" := rfl
  unfold pyHash
  have hv : [Value.bool true].any Value.onHeap = false := rfl
  refine wpAny_bind ?_
  rw [cRoomFor, if_neg (by rw [hv]; exact Bool.false_ne_true)]; refine wpAny_pure ?_
  refine wpAny_bind (wpAny_specialOf hT PySem.F.slot_bool_hash.lookup ?_)
  show wpAny _ _ (if (some (Value.builtin "int.__hash__") == some Value.none) = true then _ else _) Q E s
  rw [if_neg (by rw [beq_builtin_none]; exact Bool.false_ne_true)]
  refine wpAny_bind (wpAny_specialOf hT PySem.F.slot_bool_hash.lookup ?_)
  show wpAny _ _ (callSpecialIfBoundUnlessNone? (.bool true) "__hash__" _ >>= _) Q E s
  refine wpAny_bind (wpAny_callSpecialIfBoundUnlessNone?_slot hT PySem.F.slot_bool_hash
    (wpAny_call_entry PySem.F.slot_bool_hash hT entry_int_hash
      (show wpAny _ _ (do ret (← mkInt 1)) _ _ s from wpAny_ret_mkInt ?_) (args_int_hash _)))
  show wpAny _ _ (if (decide (-(2 : Int) ^ 63 ≤ (1 : Int)) && decide ((1 : Int) < 2 ^ 63)) = true then _ else _) Q E _
  rw [if_pos (by decide)]
  exact wpAny_pure h
theorem eqBool_true {Q : Bool → Shared → Prop} (h : Q true s) : wpAny (model prog w) A (eqBool (.bool true) (.bool true)) Q E s := by
  unfold eqBool
  refine wpAny_holding ?_
  show wpAny _ _ (if (Value.bool true == Value.bool true) = true then _ else _) Q E s
  rw [if_pos (show (Value.bool true == Value.bool true) = true from rfl)]
  exact wpAny_bind (wpAny_rule (wpAny_pure h))
end
def isT : Unit → Value → Bool
  | _, .bool true => true
  | _, _ => false
theorem isT_shape {k : Unit} {v : Value} (h : isT k v = true) : v = .bool true := by
  unfold isT at h
  split at h
  · rfl
  · cases h
def trueKind (prog : Program) (w : World) : KeyKind prog w Unit where
  is := isT
  hash := fun _ => 1
  inj := fun _ _ _ _ _ => rfl
  byValue := fun k v h => by rw [isT_shape h]; rfl
  pyHash := fun hv h => by rw [isT_shape hv]; exact pyHash_true h
  eqBool := fun hu hv h => by rw [isT_shape hu, isT_shape hv]; exact eqBool_true h
  «strs» := fun k x t v h => by cases h
def tb0 (led : Bool) : SetTable := .fresh 0 0 led
def tb1 (led : Bool) : SetTable := (layNew (tb0 led) #[] 1 (.bool true)).2.1
abbrev set0 (led : Bool) : Obj := { cls := .type "set", dict := none, data := .set #[] 0 (tb0 led) }
abbrev set1 (led : Bool) : Obj := { cls := .type "set", dict := none, data := .set #[(1, .bool true)] 1 (tb1 led) }
theorem lay1 (led : Bool) : layNew (tb0 led) #[] 1 (.bool true) = (#[(1, .bool true)], tb1 led, false, false) := by cases led <;> rfl
theorem tb1_facts (led : Bool) : (tb1 led).plain = true ∧ (tb1 led).led = led ∧ (tb1 led).tooFull = false ∧ (tb1 led).fits 1 = true ∧ (tb1 led).place = #[1] := by cases led <;> (refine ⟨?_, ?_, ?_, ?_, ?_⟩ <;> rfl)

section
variable {prog : Program} {w : World} {A : Around} {E : Value → Shared → Prop} {s : Shared}
theorem add_first {a : Addr} {led : Bool} {Q : Value → Shared → Prop} (ho : s.heap.get? a = some (set0 led)) (h : ∀ h', Heap.SameBut a s.heap h' → h'.get? a = some (set1 led) → Q .none { s with heap := h', toks := s.toks + 1 }) :
    wpAny (model prog w) A (call (.builtin "set.add") [.ref a, .bool true]) Q E s := by
  refine wpAny_call_entry PySem.F.slot_set_add ⟨_, ho, rfl⟩ PySem.F.entry_set_add ?_ (PySem.F.args_set_add_2 _ _)
  unfold Builtin.«set.add» Builtin.Frozenset.oneOther
  simp only [List.isEmpty_nil, bind_assoc]
  unfold Builtin.Frozenset.addrOf setAdd
  refine wpAny_bind (wpAny_pure ?_)
  try dsimp only
  refine wpAny_bind (wpAny_pure ?_)
  try dsimp only
  refine wpAny_bind ?_
  refine wpAny_holding ?_
  refine wpAny_bind (pyHash_true ?_)
  unfold setAddHashed setAddHashedIn
  refine wpAny_holding (wpAny_bind (wpAny_setState_of (s := { s with toks := s.toks + 1 }) ho rfl rfl ?_))
  dsimp only
  rw [byScan_of (knd := trueKind prog w) (x := .bool true) (es := #[]) rfl (by decide) (fun e he => by cases he)]
  simp only [↓reduceIte]
  unfold setAddByScan
  refine wpAny_bind ?_
  refine wpAny_bind (wpAny_rule ?_)
  refine wpAny_bind (wpAny_setScan_of (knd := trueKind prog w) (k := ()) rfl ho rfl rfl (fun e he => by cases he) ?_)
  dsimp only
  rw [lay1]
  dsimp only
  refine wpAny_bind (wpAny_pure ?_)
  rw [(tb1_facts led).1]
  simp only [↓reduceIte]
  rw [hashByValue_scannable 8 rfl]
  refine wpAny_bind (wpAny_pure ?_)
  simp only [plainKind, ↓reduceIte]
  refine wpAny_bind (wpAny_storeSet_of ho rfl ?_ (by decide))
  rw [(tb1_facts led).2.2.1]
  simp only [Bool.and_false, Bool.false_eq_true, ↓reduceIte]
  refine wpAny_pure (wpAny_pure ?_)
  refine wpAny_pure ⟨_, rfl, h _ (Heap.SameBut.update _ a _) ?_⟩
  exact Heap.get?_update_self _ ho rfl
theorem els1 : ElemsOf (trueKind prog w) (#[((1 : Int), Value.bool true)] : Array (Int × Value)).toList := fun e he => by
  have he' : e ∈ [((1 : Int), Value.bool true)] := he
  rcases List.mem_singleton.mp he' with rfl
  exact ⟨⟨(), rfl, rfl⟩, rfl⟩
theorem add_again {a : Addr} {led : Bool} {Q : Value → Shared → Prop} (ho : s.heap.get? a = some (set1 led)) (h : Q .none { s with toks := s.toks + 1 }) :
    wpAny (model prog w) A (call (.builtin "set.add") [.ref a, .bool true]) Q E s := by
  refine wpAny_call_entry PySem.F.slot_set_add ⟨_, ho, rfl⟩ PySem.F.entry_set_add ?_ (PySem.F.args_set_add_2 _ _)
  unfold Builtin.«set.add» Builtin.Frozenset.oneOther
  simp only [List.isEmpty_nil, bind_assoc]
  unfold Builtin.Frozenset.addrOf setAdd
  refine wpAny_bind (wpAny_pure ?_)
  try dsimp only
  refine wpAny_bind (wpAny_pure ?_)
  try dsimp only
  refine wpAny_bind ?_
  refine wpAny_holding ?_
  refine wpAny_bind (pyHash_true ?_)
  unfold setAddHashed setAddHashedIn
  refine wpAny_holding (wpAny_bind (wpAny_setState_of (s := { s with toks := s.toks + 1 }) ho rfl (tb1_facts led).2.2.2.1 ?_))
  dsimp only
  rw [byScan_of (knd := trueKind prog w) (x := .bool true) (es := #[(1, .bool true)]) rfl (by decide) els1]
  simp only [↓reduceIte]
  unfold setAddByScan
  refine wpAny_bind ?_
  refine wpAny_bind (wpAny_rule ?_)
  refine wpAny_bind (wpAny_setScan_of (knd := trueKind prog w) (k := ()) rfl ho rfl (tb1_facts led).2.2.2.1 els1 ?_)
  rw [show List.findIdx? (fun e => (trueKind prog w).is () e.2) (#[((1 : Int), Value.bool true)] : Array (Int × Value)).toList = some 0 from rfl]
  dsimp only
  refine wpAny_pure (wpAny_pure ?_)
  exact wpAny_pure ⟨_, rfl, h⟩
/-- what newSet gives, with the table's led told -/
theorem new_set0 {Q : Value → Shared → Prop}
    (h : Q (.ref s.heap.objs.size) { s with heap := s.heap.push (set0 (!w.params.followText "set-order")) }) : wpAny (model prog w) A (newSet (.type "set")) Q E s := by
  unfold newSet setsByText
  refine wpAny_bind (wpAny_bind (wpAny_askSetting (wpAny_pure ?_)))
  dsimp only
  simp only [newObj]
  exact wpAny_bind (wpAny_alloc (wpAny_pure h))
abbrev IsSetIter (h : Heap) (I a : Addr) (slot i : Int) : Prop := h.get? I = some { cls := .type "set_iterator", dict := none, data := .fields #[rawInt slot, rawInt i, .ref a, rawInt 1, rawInt 1], slots := #[] }
theorem entry_set_iter' : entryFor table "set.__iter__" = some Builtin.«frozenset.__iter__» :=
  entryFor_alias (id' := "frozenset.__iter__") (by kernel_rfl) rfl (by decide +kernel) (by kernel_rfl)
theorem slot_set_iterator_next : Slot "set_iterator" "__next__" "set_iterator.__next__" :=
  .of (owner := "set_iterator") (n := "__next__") (by rw [typeLookup_type, builtinLookup_eq_fast]; kernel_rfl) (by decide +kernel) (by decide +kernel) (by decide +kernel)
    (by first | exact .inl (by decide +kernel) | exact .inr (by decide +kernel)) (by rw [isSubtype_type]; kernel_rfl)
theorem entry_set_iterator_next : entryFor table "set_iterator.__next__" = some Builtin.«set_iterator.__next__» := entryFor_of_tree (by kernel_rfl)
theorem args_set_iterator_next_1 (a : Value) : argsOk "set_iterator.__next__" ⟨[a], []⟩ := by
  unfold argsOk; kernel_rfl
theorem drawn1 (led b : Bool) : (!b && (!(tb1 led).plain && decide ((#[((1 : Int), Value.bool true)] : Array (Int × Value)).size > 1))) = false := by rw [(tb1_facts led).1]; cases b <;> rfl
theorem iter_set1 {a : Addr} {led : Bool} {Q : Value → Shared → Prop} (ho : s.heap.get? a = some (set1 led))
    (h : ∀ tk, Q (.ref s.heap.objs.size) { s with heap := s.heap.push { cls := .type "set_iterator", data := .fields #[rawInt 0, rawInt 0, .ref a, rawInt 1, rawInt 1] }, toks := tk }) :
    wpAny (model prog w) A (pyIter (.ref a)) Q E s := by
  have hT : s.TypeIs (.ref a) "set" := ⟨_, ho, rfl⟩
  refine wpAny_pyIter_slot hT PySem.F.slot_set_iter (wpAny_call_entry PySem.F.slot_set_iter hT entry_set_iter' ?_ (PySem.F.args_set_iter_1 _))
  unfold Builtin.«frozenset.__iter__»
  show wpAny _ _ (Builtin.Frozenset.sizeOf a >>= _) _ _ s
  unfold Builtin.Frozenset.sizeOf
  refine wpAny_bind (wpAny_bind (wpAny_setEntries_of ho rfl (tb1_facts led).2.2.2.1 (wpAny_pure ?_)))
  unfold setDrawn setsByText
  refine wpAny_bind (wpAny_bind (wpAny_setState_of ho rfl (tb1_facts led).2.2.2.1 ?_))
  refine wpAny_bind (wpAny_bind (wpAny_askSetting (wpAny_pure ?_)))
  refine wpAny_pure ?_
  show wpAny _ _ (if (!w.params.followText "set-order" && (!(tb1 led).plain && decide ((#[((1 : Int), Value.bool true)] : Array (Int × Value)).size > 1))) = true then _ else _) _ _ _
  rw [drawn1, if_neg (by decide)]
  refine wpAny_bind (wpAny_pure ?_)
  unfold setEpoch
  refine wpAny_bind (wpAny_bind (wpAny_setState_of ho rfl (tb1_facts led).2.2.2.1 (wpAny_pure ?_)))
  refine wpAny_bind (wpAny_newObj_type ?_)
  exact wpAny_pure ⟨_, rfl, "set_iterator", _, ⟨_, Heap.get?_push_size _ rfl, rfl⟩, slot_set_iterator_next.lookup, h _⟩
theorem pick1 {α : Type} (next : Nat → Nat) (x : α) : pickOrder next #[x] = #[x] := by
  simp [pickOrder, pickOrder.go, Nat.mod_one]
theorem setWalk1 {a : Addr} {led : Bool} (ht : w.params.followText "set-order" = true) {Q : Array (Int × Value) → Shared → Prop} (ho : s.heap.get? a = some (set1 led)) (h : Q #[((1 : Int), Value.bool true)] s) :
    wpAny (model prog w) A (setWalk a) Q E s := by
  unfold setWalk setsByText
  refine wpAny_bind (wpAny_setState_of ho rfl (tb1_facts led).2.2.2.1 ?_)
  dsimp only
  refine wpAny_bind (wpAny_bind (wpAny_askSetting (wpAny_pure ?_)))
  show wpAny _ _ (if w.params.followText "set-order" = true then _ else _) _ _ _
  rw [ht, if_pos rfl]
  refine wpAny_bind (wpAny_askSetting ?_)
  rw [pick1]
  exact wpAny_pure h
theorem setNext_first {a : Addr} {led : Bool} (hled : led = !w.params.followText "set-order") {Q : Option (Value × Nat) → Shared → Prop} (ho : s.heap.get? a = some (set1 led)) (h : ∀ n, (n = 2 ∨ w.params.followText "set-order" = true) → Q (some (.bool true, n)) s) :
    wpAny (model prog w) A (setNext a 0 0 1) Q E s := by
  unfold setNext setsByText
  refine wpAny_bind (wpAny_setState_of ho rfl (tb1_facts led).2.2.2.1 ?_)
  dsimp only
  refine wpAny_bind (wpAny_bind (wpAny_askSetting (wpAny_pure ?_)))
  show wpAny _ _ (if w.params.followText "set-order" = true then _ else _) _ _ _
  cases ht : w.params.followText "set-order" with
  | true =>
    rw [if_pos rfl]
    refine wpAny_bind ?_
    refine setWalk1 ht ho ?_
    exact wpAny_pure (h 0 (.inr ht))
  | false =>
    rw [if_neg (by decide)]
    rw [ht] at hled
    subst hled
    rw [if_neg (by rw [Bool.not_eq_true]; rfl)]
    refine wpAny_bind (wpAny_pure ?_)
    exact wpAny_pure (h 2 (.inl rfl))
theorem setNext_second {a : Addr} {led : Bool} {n : Nat} (hled : led = !w.params.followText "set-order") {Q : Option (Value × Nat) → Shared → Prop} (hn : n = 2 ∨ w.params.followText "set-order" = true) (ho : s.heap.get? a = some (set1 led)) (h : Q none s) :
    wpAny (model prog w) A (setNext a n 1 1) Q E s := by
  unfold setNext setsByText
  refine wpAny_bind (wpAny_setState_of ho rfl (tb1_facts led).2.2.2.1 ?_)
  dsimp only
  refine wpAny_bind (wpAny_bind (wpAny_askSetting (wpAny_pure ?_)))
  show wpAny _ _ (if w.params.followText "set-order" = true then _ else _) _ _ _
  cases ht : w.params.followText "set-order" with
  | true =>
    rw [if_pos rfl]
    refine wpAny_bind ?_
    refine setWalk1 ht ho ?_
    exact wpAny_pure h
  | false =>
    rw [if_neg (by decide)]
    rw [ht] at hled hn
    rcases hn with rfl | hn
    · subst hled
      rw [if_neg (by rw [Bool.not_eq_true]; rfl)]
      refine wpAny_bind (wpAny_pure ?_)
      exact wpAny_pure h
    · cases hn
theorem next_set_item {I a : Addr} {led : Bool} (hled : led = !w.params.followText "set-order") {Q : Option Value → Shared → Prop} (hit : IsSetIter s.heap I a 0 0) (ho : s.heap.get? a = some (set1 led))
    (h : ∀ n h', (n = 2 ∨ w.params.followText "set-order" = true) → IsSetIter h' I a ((n : Nat) : Int) 1 → Heap.SameBut I s.heap h' → Q (some (.bool true)) { s with heap := h' }) : wpAny (model prog w) A (pyNext (.ref I)) Q E s := by
  have hT : s.TypeIs (.ref I) "set_iterator" := ⟨_, hit, rfl⟩
  unfold pyNext
  refine wpAny_bind (wpAny_attempt (wpAny_callSpecial?_slot (name := Str.ofString "__next__") hT slot_set_iterator_next
    (wpAny_call_entry slot_set_iterator_next hT entry_set_iterator_next ?_ (args_set_iterator_next_1 _))))
  show wpAny _ _ (fieldsOf (.ref I) >>= _) _ _ s
  refine wpAny_bind (wpAny_fieldsOf hit rfl ?_)
  show wpAny _ _ (setEntries a >>= _) _ _ s
  refine wpAny_bind (wpAny_setEntries_of ho rfl (tb1_facts led).2.2.2.1 ?_)
  show wpAny _ _ (setNext a 0 0 1 >>= _) _ _ s
  refine wpAny_bind (setNext_first hled ho fun n hn => ?_)
  dsimp only
  refine wpAny_bind (wpAny_setField_rec hit (by simp) fun h1 hi1 hs1 => ?_)
  refine wpAny_bind (wpAny_setField_rec hi1 (by simp) fun h2 hi2 hs2 => ?_)
  exact wpAny_pure ⟨_, rfl, wpAny_pure (h n h2 hn hi2 (hs1.trans hs2))⟩
theorem next_set_end {I a : Addr} {led : Bool} {n : Nat} (hh : A.handled = none) (hled : led = !w.params.followText "set-order") (hn : n = 2 ∨ w.params.followText "set-order" = true) {Q : Option Value → Shared → Prop} (hit : IsSetIter s.heap I a ((n : Nat) : Int) 1) (ho : s.heap.get? a = some (set1 led))
    (hQ : ∀ h', Heap.ExtBut I s.heap h' → Q none { s with heap := h' }) : wpAny (model prog w) A (pyNext (.ref I)) Q E s := by
  have hT : s.TypeIs (.ref I) "set_iterator" := ⟨_, hit, rfl⟩
  unfold pyNext
  refine wpAny_bind (wpAny_attempt (wpAny_callSpecial?_slot (name := Str.ofString "__next__") hT slot_set_iterator_next
    (wpAny_call_entry slot_set_iterator_next hT entry_set_iterator_next ?_ (args_set_iterator_next_1 _))))
  show wpAny _ _ (fieldsOf (.ref I) >>= _) _ _ s
  refine wpAny_bind (wpAny_fieldsOf hit rfl ?_)
  show wpAny _ _ (setEntries a >>= _) _ _ s
  refine wpAny_bind (wpAny_setEntries_of ho rfl (tb1_facts led).2.2.2.1 ?_)
  show wpAny _ _ (setNext a n 1 1 >>= _) _ _ s
  refine wpAny_bind (setNext_second hled hn ho ?_)
  dsimp only
  refine wpAny_bind (wpAny_setField_rec hit (by simp) fun h1 hi1 hs1 => ?_)
  have hs1' : Heap.SameBut I s.heap h1 := hs1
  show wpAny _ _ (newExc (.type "StopIteration") [] >>= _) _ _ _
  refine wpAny_bind ?_
  simp only [newExc, newTuple]
  refine wpAny_bind (wpAny_newObj_type ?_ (by size_fits))
  refine wpAny_bind (m := firstArgMember _ _) (wpAny_of_eq (a := Value.none) (by first | rfl | (simp only [firstArgMember]; rfl)) ?_)
  refine wpAny_newObj_type ?_ (by size_fits)
  simp only [raiseNew]
  refine wpAny_bind (wpAny_handled ?_)
  rw [show A.in1.handled = none from hh]
  refine wpAny_bind (wpAny_pure (wpAny_throw ?_))
  refine wpAny_bind (wpAny_isInstance (T := "StopIteration") (b := true) ⟨_, Heap.get?_push_size _ rfl, rfl⟩ isSubtype_stop ?_)
  exact wpAny_pure (hQ _ ((hs1'.extBut.push _).push _))
theorem assign_set1 {env : Env} {x : Str} {px pt : Pos} {k0 : Nat} {a : Addr} {led : Bool} {Q : Unit → Shared → Prop} (hh : A.handled = none) (hled : led = !w.params.followText "set-order") (ho : s.heap.get? a = some (set1 led))
    (h : ∀ h' tk, Ext s.heap h' → wpAny (model prog w) A (PySem.assign (.Name x px) env (.bool true)) Q E { s with heap := h', toks := tk }) :
    wpAny (model prog w) A (PySem.assign (.Tuple [.Name x px] k0 pt) env (.ref a)) Q E s := by
  have hlt : a ≠ s.heap.objs.size := Nat.ne_of_lt (Heap.lt_size ho)
  have hT : s.TypeIs (.ref a) "set" := ⟨_, ho, rfl⟩
  rw [arm_assign_Tuple]
  refine wpAny_bind (wpAny_standAt ?_)
  unfold unpack
  show wpAny _ _ (holding [.ref a] (unpackItems (.ref a) 1 none) >>= _) _ _ _
  refine wpAny_bind (wpAny_holding ?_)
  unfold unpackItems
  refine wpAny_bind ?_
  unfold notIterableAtAll
  refine wpAny_bind (wpAny_specialOf hT PySem.F.slot_set_iter.lookup ?_)
  refine wpAny_pure ?_
  simp only [Bool.false_eq_true, if_false]
  refine wpAny_bind (wpAny_holding (iter_set1 ho fun tk => ?_))
  refine wpAny_bind (wpAny_holding ?_)
  show wpAny _ _ (pyNext (.ref s.heap.objs.size) >>= _) _ _ _
  refine wpAny_bind (next_set_item hled (Heap.get?_push_size _ rfl) (Heap.get?_push_of_some _ ho) fun n h1 hn hit1 hs1 => ?_)
  have hs1' : Heap.SameBut s.heap.objs.size (s.heap.push { cls := .type "set_iterator", data := .fields #[rawInt 0, rawInt 0, .ref a, rawInt 1, rawInt 1] }) h1 := hs1
  refine wpAny_bind (wpAny_holding (wpAny_pure ?_))
  refine wpAny_pure ?_
  rw [if_neg (by decide)]
  have ho1 : h1.get? a = some (set1 led) := (hs1'.2 a hlt).trans (Heap.get?_push_of_some _ ho)
  refine wpAny_bind (wpAny_holding (next_set_end hh hled hn hit1 ho1 fun h2 he2 => ?_))
  have he2' : Heap.ExtBut s.heap.objs.size h1 h2 := he2
  simp only [Option.isSome_none, Bool.false_eq_true, if_false]
  refine wpAny_pure ?_
  show wpAny _ A (do holding [] (PySem.assign (.Name x px) env (.bool true)); pure ()) _ _ _
  refine wpAny_bind (wpAny_holding ?_)
  refine wpAny_mono (h h2 tk fun b o e => ?_) (fun _ _ q => wpAny_pure q) fun _ _ e => e
  have hb : b ≠ s.heap.objs.size := Nat.ne_of_lt (Heap.lt_size e)
  exact he2' b o hb ((hs1'.2 b hb).trans (Heap.get?_push_of_some _ e))

theorem compTurn_set (elt target iter : Expr) (scope : Scope) (pos : Pos) (it acc : Value) (env : Env) :
    compTurn (.SetComp elt [⟨target, iter, [], 0⟩] scope pos) 0 it acc env = (do
      standAt iter.pos
      match ← pyNext it with
      | none => pure (.done .next)
      | some v =>
        letOwnedTupleGo target it v
        PySem.assign target env v
        (do let v ← eval elt env; standAt elt.pos; let _ ← call (.builtin "set.add") [acc, v])
        again (.compLoop (.SetComp elt [⟨target, iter, [], 0⟩] scope pos) 0 it acc env)) := by
  rfl
end

section
variable {prog : Program} {w : World} {A : Around} {E : Value → Shared → Prop} {R : Result → Shared → Prop} {s : Shared}
theorem codeAny_compLoop_set {elt target iter : Expr} {scope : Scope} {pos : Pos} {it acc : Value} {env : Env} (I : Nat → Shared → Prop)
    (turn : ∀ n s, I n s → wpAny (model prog w) A (pyNext it) (fun r s₁ => match r with
      | none => R (.ok .next) s₁
      | some v => wpAny (model prog w) A (PySem.assign target env v) (fun _ s₂ => wpAny (model prog w) A (eval elt env) (fun x s₄ =>
              wpAny (model prog w) A (call (.builtin "set.add") [acc, x]) (fun _ s₅ => ∃ m, m < n ∧ I m s₅) (notedBy (model prog w) A env fun e s' => R (.error e) s') s₄)
            (notedBy (model prog w) A env fun e s' => R (.error e) s') s₂) (notedBy (model prog w) A env fun e s' => R (.error e) s') s₁) (notedBy (model prog w) A env fun e s' => R (.error e) s') s)
    (n : Nat) (h : I n s) (ht : ∀ v, letOwnedTupleGo target it v = pure () := by intro _; rfl) :
    codeAny (model prog w) A (.compLoop (.SetComp elt [⟨target, iter, [], 0⟩] scope pos) 0 it acc env) R s := by
  refine codeAny_loop rfl I (fun n s hI => ?_) n h
  show wpAny _ A ((compTurn (.SetComp elt [⟨target, iter, [], 0⟩] scope pos) 0 it acc env).onRaise (fun x => do noteFrame x env; theTreesLotGoes x)) _ _ s
  refine wpAny_noted ?_
  rw [compTurn_set]
  refine wpAny_bind (wpAny_standAt (wpAny_bind (wpAny_mono (turn n s hI) (fun r s₁ h₁ => ?_) fun _ _ h' => h')))
  cases r with
  | none => exact wpAny_pure h₁
  | some v =>
    refine wpAny_bind (wpAny_of_eq (ht v) ?_)
    refine wpAny_bind (wpAny_mono h₁ (fun _ s₂ h₂ => ?_) fun _ _ h' => h')
    exact wpAny_bind (wpAny_bind (wpAny_mono h₂ (fun x s₄ h₄ => wpAny_bind (wpAny_standAt (wpAny_bind (wpAny_mono h₄ (fun _ s₅ h₅ => wpAny_pure (wpAny_pure ⟨rfl, h₅⟩)) fun _ _ h' => h')))) fun _ _ h' => h'))
theorem codeAny_compStart_set {elt target iter ifs rest scope pos it acc env}
    (h0 : codeAny (model prog w) A (.compLoop (.SetComp elt (⟨target, iter, ifs, 0⟩ :: rest) scope pos) 0 it acc env) R s)
    (h : wpAny (model prog w) A (pyIter it) (fun it' s' => codeAny (model prog w) A (.compLoop (.SetComp elt (⟨target, iter, ifs, 0⟩ :: rest) scope pos) 0 it' acc env) R s')
      (notedBy (model prog w) A env fun x s' => R (.error x) s') s) :
    codeAny (model prog w) A (.compStart (.SetComp elt (⟨target, iter, ifs, 0⟩ :: rest) scope pos) 0 it acc env) R s := by
  refine codeAny_of_tree ?_
  show wpAny _ _ ((compStart (.SetComp elt (⟨target, iter, ifs, 0⟩ :: rest) scope pos) 0 it acc env).onRaise (fun x => do noteFrame x env; standAt theWindowsPlace)) _ _ s
  refine wpAny_notedAt ?_
  unfold compStart
  show wpAny _ _ (ask >>= _) _ _ s
  refine wpAny_bind (wpAny_askSetting (wpAny_ite ?_))
  split
  · first
      | exact wpAny_bind (wpAny_pure (wpAny_pure (And.intro rfl h0)))
      | exact wpAny_pure (And.intro rfl h0)
  · first
      | exact wpAny_bind (wpAny_rule (wpAny_bind (wpAny_standAt (wpAny_bind (wpAny_mono h (fun it' s' h' => wpAny_pure (And.intro rfl h')) fun _ _ x => x)))))
      | (refine wpAny_bind (wpAny_rule ?_); show wpAny _ _ (standAt iter.pos >>= _) _ _ s; exact wpAny_bind (wpAny_standAt (wpAny_bind (wpAny_mono h (fun it' s' h' => wpAny_pure (And.intro rfl h')) fun _ _ x => x))))
end
def accS (led : Bool) : Nat → Obj
  | 0 => set0 led
  | _ + 1 => set1 led
section
variable {c : Cx} {E : Value → Shared → Prop}
theorem comp_coreS {elt iter : Expr} {x : Str} {px : Pos} {scope : Scope} {cl : List (Str × Addr)} {pos : Pos} {s₂ : Shared} {I : Addr} {fp wr : List Addr} {n : Nat} {P : Nat → Value → Prop}
    {Stt : Nat → Heap → Prop} {hb : Heap} {src : List D} {rf : Str → Option D} (W : Walks c.prog c.w c.A I fp wr n P Stt) (led : Bool) (hled : led = !c.w.params.followText "set-order") {RR : Value → Addr → Result → Shared → Prop}
    (hnl : n = src.length) (hpos : 0 < n) (sv : Sv c hb) (e2 : Ext hb s₂.heap) (hwb : ∀ b ∈ wr, hb.get? b = none) (hpr : ∀ i h, Stt i h → ∀ b ∈ wr, (h.get? b).isSome = true)
    (hP : ∀ i v, P i v → ∃ d, src[i]? = some d ∧ Rep (hide c.mu hb) v d)
    (hcell : ∀ y ∈ scope.names, y.2 ≠ .cell) (hkind : scope.kind = .function) (hx : scope.names.lookup x = some .local) (hst : Stt 0 s₂.heap) (hfp : ∀ b ∈ fp, b < s₂.heap.objs.size)
    (hfree : Free c scope cl rf)
    (helt : ∀ C Dd d, d ∈ src → Ev (cxC c scope cl C Dd wr (fun y => if y = x then some d else rf y)) elt (.bool true))
    (hRR : ∀ Dd C h' tk m', hb.get? Dd = none → hb.get? C = none → Dd ≠ C → h'.Ns C m' → h'.get? Dd = some (set1 led) → Ext hb h' → RR (.ref Dd) C (.ok .next) { s₂ with heap := h', toks := tk }) :
    wpAny c.M c.A (newSet (.type "set")) (fun acc s₃ => wpAny c.M c.A (newFunctionEnv scope c.env.globals cl [] c.env.qual none .none (some c.env)) (fun cenv s₄ =>
      codeAny c.M c.A (.compStart (.SetComp elt [⟨.Name x px, iter, [], 0⟩] scope pos) 0 (.ref I) acc { cenv with scope := relabel scope c.env }) (RR acc cenv.locals) s₄) E s₃) E s₂ := by
  refine new_set0 (wpAny_newFunctionEnv hcell (by intro y hy; simp at hy) (fun h₁ hns₁ hsb₁ => ?_) hkind)
  dsimp only at hns₁ hsb₁ ⊢
  rw [← hled] at hns₁ hsb₁ ⊢
  generalize hH2 : s₂.heap.push (set0 led) = H2 at hns₁ hsb₁ ⊢
  have hC : H2.objs.size = s₂.heap.objs.size + 1 := by rw [← hH2, Heap.size_push]
  have hDC : s₂.heap.objs.size ≠ H2.objs.size := by rw [hC]; exact Nat.ne_of_lt (Nat.lt_succ_self _)
  have below : ∀ b, b < s₂.heap.objs.size → b ≠ H2.objs.size ∧ b ≠ s₂.heap.objs.size := fun b hb => ⟨by rw [hC]; exact Nat.ne_of_lt (Nat.lt_succ_of_lt hb), Nat.ne_of_lt hb⟩
  have hDf : s₂.heap.objs.size ∉ fp := fun hm => Nat.lt_irrefl _ (hfp _ hm)
  have hCf : H2.objs.size ∉ fp := fun hm => by have := hfp _ hm; rw [hC] at this; exact Nat.lt_irrefl _ (Nat.lt_of_succ_lt this)
  have old : ∀ b o, s₂.heap.get? b = some o → h₁.get? b = some o := fun b o e => hsb₁.extBut b o (below b (Heap.lt_size e)).1 (Heap.get?_push_of_some _ (hH2 ▸ Heap.get?_push_of_some _ e))
  have hacc : h₁.get? s₂.heap.objs.size = some (accS led 0) := hsb₁.extBut _ _ hDC (Heap.get?_push_of_some _ (hH2 ▸ Heap.get?_push_size _ rfl))
  have hst₁ : Stt 0 h₁ := W.frame _ _ _ hst fun b _ o e => old b o e
  have freshb : ∀ a, s₂.heap.objs.size ≤ a → hb.get? a = none := fun a ha => by
    cases e : hb.get? a with
    | none => rfl
    | some o' => exact absurd (Heap.lt_size (e2 a o' e)) (Nat.not_lt.mpr ha)
  generalize hDd : s₂.heap.objs.size = Dd at *
  generalize hCC : H2.objs.size = C at *
  have hbC : hb.get? C = none := freshb C (by omega)
  have hbD : hb.get? Dd = none := freshb Dd (Nat.le_refl _)
  have hnew : ∀ b ∈ C :: Dd :: wr, hb.get? b = none := by
    intro b hq
    rcases List.mem_cons.mp hq with rfl | hq
    · exact hbC
    · rcases List.mem_cons.mp hq with rfl | hq
      · exact hbD
      · exact hwb b hq
  have hDw : Dd ∉ wr := fun q => hDf (W.sub _ q)
  have hCw : C ∉ wr := fun q => hCf (W.sub _ q)
  have hxl : ∀ C, (compEnvC scope cl C c.env).kindOf x = some .local := fun C => lookup_relabel_local hx
  have loop : ∀ s₃ : Shared, s₃ = { s₂ with heap := h₁, toks := s₂.toks + ([] : List (Str × Value)).length } →
      codeAny c.M c.A (.compLoop (.SetComp elt [⟨.Name x px, iter, [], 0⟩] scope pos) 0 (.ref I) (.ref Dd) (compEnvC scope cl C c.env)) (RR (.ref Dd) C) s₃ := by
    rintro s₃ rfl
    refine codeAny_compLoop_set
      (fun k s' => ∃ h' tk m' i, s' = { s₂ with heap := h', toks := tk } ∧ Stt i h' ∧ h'.get? Dd = some (accS led i) ∧ h'.Ns C m' ∧ i ≤ n ∧ k = n + 1 - i ∧ Ext hb h') ?_ (n + 1)
      ⟨h₁, _, _, 0, rfl, hst₁, hacc, hns₁, Nat.zero_le _, rfl, e2.trans old⟩
    rintro k s' ⟨H, tk, m', i, rfl, hst', hacc', hn', hi, rfl, hE⟩
    by_cases hin : i < n
    · refine W.item i _ _ _ hin hst' fun v h₂ tk₂ hPv hst₂ hk₂ => ?_
      obtain ⟨d, hd, hrep⟩ := hP i v hPv
      have hmem : d ∈ src := List.mem_of_getElem? hd
      have hn₂ : h₂.Ns C m' := hn'.at' fun o e => hk₂ _ o hCw e
      have hacc₂ : h₂.get? Dd = some (accS led i) := hk₂ _ _ hDw hacc'
      have hE₂ : Ext hb h₂ := fun b o e => hk₂ b o (fun q => by rw [hwb b q] at e; cases e) (hE b o e)
      refine wpAny_assign_Name (wpAny_storeName_local (hxl C) hn₂ (fun h₃ hn₃ hs₃ => ?_) (by simp [compEnvC, relabel, hkind]))
      have hst₃ : Stt (i + 1) h₃ := W.frame _ _ _ hst₂ fun b hb' o e => hs₃.extBut b o (fun q => hCf ((show b = C from q) ▸ hb')) e
      have hacc₃ : h₃.get? Dd = some (accS led i) := hs₃.extBut _ _ hDC hacc₂
      have hE₃ : Ext hb h₃ := fun b o e => hs₃.extBut b o (fun q => by have q' : b = C := q; rw [q', hbC] at e; cases e) (hE₂ b o e)
      have pres : ∀ h, Stt (i + 1) h → h.get? Dd = some (accS led i) → ∀ m, h.Ns C m → ∀ b ∈ C :: Dd :: wr, (h.get? b).isSome = true := by
        intro h q1 q2 m q3 b hq
        rcases List.mem_cons.mp hq with rfl | hq
        · obtain ⟨o, _, _, ho, _⟩ := q3; rw [ho]; rfl
        · rcases List.mem_cons.mp hq with rfl | hq
          · rw [q2]; rfl
          · exact hpr _ _ q1 b hq
      have sv₃ : Sv (cxC c scope cl C Dd wr (fun y => if y = x then some d else rf y)) h₃ := comp_sv sv hE₃ hfree hxl hn₃ (by simp) hnew (pres _ hst₃ hacc₃ _ hn₃) hrep
      refine (helt C Dd d hmem).run _ _ _ sv₃ fun y h₅ tk₅ e₅ py => ?_
      rw [py.boolE]
      have hst₅ : Stt (i + 1) h₅ := W.frame _ _ _ hst₃ fun b _ o e => e₅ b o e
      have hacc₅ : h₅.get? Dd = some (accS led i) := e₅ _ _ hacc₃
      cases i with
      | zero =>
        refine add_first hacc₅ fun h₆ hs₆ ho₆ => ?_
        refine ⟨n + 1 - (0 + 1), by omega, h₆, _, _, 0 + 1, rfl, W.frame _ _ _ hst₅ fun b hb' o e => hs₆.extBut b o (fun q => hDf (q ▸ hb')) e, ho₆, (hn₃.keeps e₅).sameBut hs₆ (Ne.symm hDC), hin, rfl, fun b o e => hs₆.extBut b o (fun q => by rw [q, hbD] at e; cases e) (e₅ b o (hE₃ b o e))⟩
      | succ i =>
        refine add_again hacc₅ ?_
        exact ⟨n + 1 - (i + 1 + 1), by omega, h₅, _, _, i + 1 + 1, rfl, hst₅, hacc₅, hn₃.keeps e₅, hin, rfl, hE₃.trans e₅⟩
    · have hie : i = n := by omega
      subst hie
      refine W.done _ _ _ hst' fun h₂ tk₂ hk₂ => ?_
      obtain ⟨j, rfl⟩ : ∃ j, i = j + 1 := ⟨i - 1, by omega⟩
      exact hRR Dd C h₂ tk₂ m' hbD hbC hDC (hn'.at' fun o e => hk₂ _ o hCw e) (hk₂ _ _ hDw hacc') (fun b o e => hk₂ b o (fun q => by rw [hwb b q] at e; cases e) (hE b o e))
  exact codeAny_compStart_set (loop _ rfl) (W.self 0 _ _ _ hst₁ (loop _ rfl))
/-- y, = {elt for x in iter}, where each element is True -/
theorem St.unpackSet {s₀ s : Shared} {elt iter : Expr} {x y : Str} {px py pt : Pos} {k0 : Nat} {scope : Scope} {cl : List (Str × Addr)} {pos spos : Pos} {d0 : D} {src : List D} {rf : Str → Option D} {rest : List Stmt} {Q : Flow → Shared → Prop}
    (st : St c s₀ s) (g0 : Gl c.K s₀.heap) (hh : c.A.handled = none) (hy : Stores c.env y) (hox : ∀ z r ds, c.ow = some (z, r, ds) → z ≠ y)
    (hclos : closureFor scope c.env = pure cl) (hcell : ∀ z ∈ scope.names, z.2 ≠ .cell) (hkind : scope.kind = .function)
    (hnames : ∀ z ∈ scope.names, z.2 = .local → scope.names.lookup z.1 = some .local) (hx : scope.names.lookup x = some .local)
    (hi : Ev c iter d0) (hit : Itr c d0 src) (hne : 0 < src.length) (hfree : Free c scope cl rf)
    (helt : ∀ C Dd I d, d ∈ src → Ev (cxC c scope cl C Dd [I] (fun z => if z = x then some d else rf z)) elt (.bool true))
    (hs : ∀ v, foldedSetIterable iter c.env v = pure v)
    (hsw : swapsWithSole [.Tuple [.Name y py] k0 pt] (.SetComp elt [⟨.Name x px, iter, [], 0⟩] scope pos) spos.line c.env = pure false)
    (hw : swappedStores [.Tuple [.Name y py] k0 pt] (.SetComp elt [⟨.Name x px, iter, [], 0⟩] scope pos) c.env = pure none)
    (h : ∀ s', St (c.set y (.bool true)) s₀ s' → wpAny c.M c.A (execs rest c.env) Q E s') :
    wpAny c.M c.A (execs (.Assign [.Tuple [.Name y py] k0 pt] (.SetComp elt [⟨.Name x px, iter, [], 0⟩] scope pos) spos :: rest) c.env) Q E s := by
  refine wpAny_execs_cons (Assign_Tuple ?_ hsw hw)
  show wpAny _ c.A (comprehension (.SetComp elt [⟨.Name x px, iter, [], 0⟩] scope pos) scope c.env _ (newSet (.type "set")) false (eval iter c.env)) _ _ s
  refine wpAny_comprehension_free (use := none) rfl hs hclos hkind hnames (hi.run s _ _ st.sv fun v h₁ tk₁ e₁ pv => ?_)
  have st₁ := st.ext e₁ tk₁
  refine hit.run _ v _ _ st₁.sv pv fun I fp P Stt h₂ tk₂ W e₂ hI hpr hP hst hfp => ?_
  refine comp_coreS (RR := fun acc C => compPost c.M c.A E none _ acc C) (hb := h₁) (src := src) (rf := rf) W _ rfl rfl hne st₁.sv e₂ ?_ ?_ hP hcell hkind hx hst (fun b hb => (hfp b hb).1) hfree
    (fun C Dd d hd => helt C Dd _ d hd) ?_
  · intro b hb; rcases List.mem_singleton.mp hb with rfl; exact hI
  · intro i h hst b hb; rcases List.mem_singleton.mp hb with rfl; exact hpr i h hst
  · intro Dd C h' tk m' hD hC hDC hn hset hE
    refine ⟨m', hn, fun h'' hs'' => ?_⟩
    have hset' : h''.get? Dd = some (set1 _) := (hs''.2 Dd hDC).trans hset
    have hE' : Ext h₁ h'' := fun b o e => hs''.extBut b o (fun q => by rw [q, hC] at e; cases e) (hE b o e)
    refine assign_set1 hh rfl hset' fun h₃ tk₃ e₃ => ?_
    have st₃ := st₁.ext (hE'.trans e₃) tk₃
    exact wpAny_assign_Name (st₃.store g0 hy (.bool _) hox fun s' st' => h s' st')
end
end Mine
end PdUPart
section PdVPart
open PySem PySem.W PyProof.Rows
namespace Mine
/-! tuple(map(f, l)) -/
theorem slot_map_init : Slot "map" "__init__" "object.__init__" :=
  .of (owner := "object") (n := "__init__") (by rw [typeLookup_type, builtinLookup_eq_fast]; kernel_rfl) (by decide +kernel) (by decide +kernel) (by decide +kernel)
    (by first | exact .inl (by decide +kernel) | exact .inr (by decide +kernel)) (by rw [isSubtype_type]; kernel_rfl)
theorem slot_map_iter : Slot "map" "__iter__" "map.__iter__" :=
  .of (owner := "map") (n := "__iter__") (by rw [typeLookup_type, builtinLookup_eq_fast]; kernel_rfl) (by decide +kernel) (by decide +kernel) (by decide +kernel)
    (by first | exact .inl (by decide +kernel) | exact .inr (by decide +kernel)) (by rw [isSubtype_type]; kernel_rfl)
theorem slot_map_next : Slot "map" "__next__" "map.__next__" :=
  .of (owner := "map") (n := "__next__") (by rw [typeLookup_type, builtinLookup_eq_fast]; kernel_rfl) (by decide +kernel) (by decide +kernel) (by decide +kernel)
    (by first | exact .inl (by decide +kernel) | exact .inr (by decide +kernel)) (by rw [isSubtype_type]; kernel_rfl)
theorem entry_map_iter : entryFor table "map.__iter__" = some Builtin.«dict_keyiterator.__iter__» :=
  entryFor_alias (id' := "dict_keyiterator.__iter__") (by kernel_rfl) (by first | rfl | decide +kernel) (by decide +kernel) (by kernel_rfl)
theorem entry_map_next : entryFor table "map.__next__" = some Builtin.«map.__next__» := entryFor_of_tree (by kernel_rfl)
theorem entry_map_new : entryFor table "map.__new__" = some Builtin.«map.__new__» := entryFor_of_tree (by kernel_rfl)
theorem args_map_next_1 (a : Value) : argsOk "map.__next__" ⟨[a], []⟩ := by unfold argsOk; kernel_rfl
theorem args_map_iter_1 (a : Value) : argsOk "map.__iter__" ⟨[a], []⟩ := by unfold argsOk; kernel_rfl
theorem mro_map : mroOf (.type "map") = pure [.type "map", .type "object"] := by rw [mroOf_type]; kernel_rfl
theorem lookup_map_new : typeLookup (.type "map") "__new__" = pure (some (.builtin "map.__new__")) := by rw [typeLookup_type, builtinLookup_eq_fast]; kernel_rfl
theorem sub_map : isSubtype (.type "map") (.type "map") = pure true := by rw [isSubtype_type]; kernel_rfl
theorem called_map : TypeCalled "map" "map.__new__" "object.__init__" :=
  ⟨by decide +kernel, by decide +kernel, ⟨_, _, mro_map⟩, madeBy_type mro_map lookup_map_new (by decide +kernel), by decide +kernel, sub_map, slot_map_init⟩
theorem typeCall_map_2 (a b : Value) : checkTypeCall "map" ⟨[a, b], []⟩ = pure () := by kernel_rfl
theorem newCall_map_2 (a b : Value) : checkBuiltinCall "map.__new__" ⟨[.type "map", a, b], []⟩ = pure () := by kernel_rfl
theorem nolen_map : typeLookup (.type "map") "__len__" = pure none := by rw [typeLookup_type, builtinLookup_eq_fast]; kernel_rfl
theorem nohint_map : typeLookup (.type "map") "__length_hint__" = pure none := by rw [typeLookup_type, builtinLookup_eq_fast]; kernel_rfl

abbrev mapH1 (h : Heap) (l : Addr) : Heap := h.push { cls := .type "list_iterator", data := .fields #[.ref l, .int 0 0] }
abbrev mapH2 (h : Heap) (l : Addr) : Heap := (mapH1 h l).push { cls := .type "tuple", data := .seq #[.ref h.objs.size] }
abbrev mapH3 (h : Heap) (l f : Addr) : Heap := (mapH2 h l).push { cls := .type "map", data := .fields #[.ref (mapH1 h l).objs.size, .ref f] }
theorem meets_map_new (f l : Addr) (items : Array Value) :
    Meets (Builtin.«map.__new__» ⟨[.type "map", .ref f, .ref l], []⟩) (fun _ R s => s.heap.IsList l items ∧ R (.ok (.ret (.ref (mapH2 s.heap l).objs.size))) { s with heap := mapH3 s.heap l f }) :=
  .of_wp fun prog w A R s h => by
    obtain ⟨hp, g, d, tk, os⟩ := s; obtain ⟨hl, h⟩ := h
    have hsub := sub_map
    have hL : Heap.IsList (Shared.heap ⟨hp, g, d, tk, os⟩) l items := hl
    wp_walk using wpAny_pyIter_list hL
    exact ⟨_, rfl, h⟩

abbrev IsMap (h : Heap) (I T f : Addr) : Prop := h.get? I = some { cls := .type "map", dict := none, data := .fields #[.ref T, .ref f], slots := #[] }
abbrev IsIts (h : Heap) (T it : Addr) : Prop := h.get? T = some { cls := .type "tuple", dict := none, data := .seq #[.ref it] 0, slots := #[] }
section
variable {prog : Program} {w : World} {A : Around} {E : Value → Shared → Prop} {s : Shared}
theorem pyIter_map {I T f : Addr} {Q : Value → Shared → Prop} (hm : IsMap s.heap I T f) (h : Q (.ref I) s) : wpAny (model prog w) A (pyIter (.ref I)) Q E s := by
  have hT : s.TypeIs (.ref I) "map" := ⟨_, hm, rfl⟩
  refine wpAny_pyIter_slot hT slot_map_iter (wpAny_call_entry slot_map_iter hT entry_map_iter ?_ (args_map_iter_1 _))
  show wpAny _ _ (ret (.ref I)) _ _ s
  exact wpAny_pure ⟨_, rfl, "map", _, hT, slot_map_next.lookup, h⟩
theorem map_item {I T f it l : Addr} {i : Nat} {items : Array Value} {v : Value} {Pr : Value → Prop} {Q : Option Value → Shared → Prop} (hm : IsMap s.heap I T f) (hts : IsIts s.heap T it) (hit : s.heap.IsListIter it l i) (hl : s.heap.IsList l items) (hx : items[i]? = some v) (hIi : I ≠ it)
    (hcall : ∀ (s' : Shared) (Q' : Value → Shared → Prop) (E' : Value → Shared → Prop), Heap.SameBut it s.heap s'.heap → (∀ u h' tk, Ext s'.heap h' → Pr u → Q' u { s' with heap := h', toks := tk }) → wpAny (model prog w) A.in1 (call (.ref f) [v]) Q' E' s')
    (h : ∀ u h' h'' tk, Pr u → h'.IsListIter it l (i + 1) → Heap.SameBut it s.heap h' → Ext h' h'' → Q (some u) { s with heap := h'', toks := tk }) : wpAny (model prog w) A (pyNext (.ref I)) Q E s := by
  have hT : s.TypeIs (.ref I) "map" := ⟨_, hm, rfl⟩
  unfold pyNext
  refine wpAny_bind (wpAny_attempt (wpAny_callSpecial?_slot (name := Str.ofString "__next__") hT slot_map_next
    (wpAny_call_entry slot_map_next hT entry_map_next ?_ (args_map_next_1 _))))
  show wpAny _ _ (field (.ref I) 0 >>= _) _ _ s
  refine wpAny_bind (wpAny_field hm rfl (x := .ref T) rfl ?_)
  show wpAny _ _ (seqItems? (.ref T) >>= _) _ _ s
  refine wpAny_bind (wpAny_seqItems hts rfl ?_)
  dsimp only
  rw [← Array.forIn_toList, List.forIn_cons]
  refine wpAny_bind (wpAny_bind (wpAny_bind (wpAny_holding (wpAny_nextOf_list_item hit hl hx fun h1 hit1 hs1 => ?_))))
  have hs1' : Heap.SameBut it s.heap h1 := hs1
  refine wpAny_pure ?_
  refine wpAny_pure ?_
  have hm1 : IsMap h1 I T f := (hs1'.2 I hIi).trans hm
  refine wpAny_bind (wpAny_field hm1 rfl (x := .ref f) rfl ?_)
  refine wpAny_bind (wpAny_holding (hcall _ _ _ hs1' fun u h2 tk2 e2 pu => ?_))
  refine wpAny_bind (wpAny_letGo ?_)
  exact wpAny_pure ⟨_, rfl, wpAny_pure (h u h1 h2 tk2 pu hit1 hs1' e2)⟩
theorem map_end {I T f it l : Addr} {i : Nat} {items : Array Value} {Q : Option Value → Shared → Prop} (hh : A.handled = none) (hm : IsMap s.heap I T f) (hts : IsIts s.heap T it) (hit : s.heap.IsListIter it l i) (hl : s.heap.IsList l items) (hx : items[i]? = none)
    (h : ∀ h', Heap.ExtBut it s.heap h' → Q none { s with heap := h' }) : wpAny (model prog w) A (pyNext (.ref I)) Q E s := by
  have hT : s.TypeIs (.ref I) "map" := ⟨_, hm, rfl⟩
  unfold pyNext
  refine wpAny_bind (wpAny_attempt (wpAny_callSpecial?_slot (name := Str.ofString "__next__") hT slot_map_next
    (wpAny_call_entry slot_map_next hT entry_map_next ?_ (args_map_next_1 _))))
  show wpAny _ _ (field (.ref I) 0 >>= _) _ _ s
  refine wpAny_bind (wpAny_field hm rfl (x := .ref T) rfl ?_)
  show wpAny _ _ (seqItems? (.ref T) >>= _) _ _ s
  refine wpAny_bind (wpAny_seqItems hts rfl ?_)
  dsimp only
  rw [← Array.forIn_toList, List.forIn_cons]
  refine wpAny_bind (wpAny_bind (wpAny_bind (wpAny_holding (wpAny_nextOf_list_end hh hit hl hx fun h1 e he1 ho1 => ?_))))
  obtain ⟨o, ho, hc⟩ := ho1
  refine wpAny_bind (wpAny_isInstance (T := "StopIteration") (b := true) ⟨o, ho, hc⟩ isSubtype_stop ?_)
  exact wpAny_pure (h _ he1)

/-- the walk over a map of a def on texts -/
theorem Walks.mapStr {K : Frag} {k : Nat} {I T f it l : Addr} {h₀ hb : Heap} {items : List (Str × Tok)} (room : Room A (k + 1)) (fn : ∀ x, Fn prog w K k f [.str x] (.str x)) (gl : Gl K hb) (e0 : ∀ b o, hb.get? b = some o → h₀.get? b = some o) (hbi : hb.get? it = none)
    (hm : IsMap h₀ I T f) (hts : IsIts h₀ T it) (hl : h₀.IsList l (strValues items).toArray) (hIi : I ≠ it) (hTi : T ≠ it) (hli : l ≠ it) (hitlt : it < h₀.objs.size) :
    Walks prog w A I (List.range h₀.objs.size) [it] items.length (fun i v => ∃ x t t', items[i]? = some (x, t) ∧ v = .str x t') (fun i h => (∀ b o, b ≠ it → h₀.get? b = some o → h.get? b = some o) ∧ h.IsListIter it l i) where
  sub := fun b hb => by rcases List.mem_singleton.mp hb with rfl; exact List.mem_range.mpr hitlt
  frame := fun i h h' hst hk => ⟨fun b o hb e => hk b (List.mem_range.mpr (Heap.lt_size e)) o (hst.1 b o hb e), hst.2.at fun o e => hk it (List.mem_range.mpr hitlt) o e⟩
  item := fun i s Q E hi hst hQ => by
    obtain ⟨hk, hit⟩ := hst
    have hlk : s.heap.IsList l (strValues items).toArray := by obtain ⟨o, ho, r⟩ := hl; exact ⟨o, hk l o hli ho, r⟩
    have hx : (strValues items).toArray[i]? = some (.str (items[i]).1 (items[i]).2) := by simp [strValues, hi]
    refine map_item (Pr := fun u => ∃ t, u = .str (items[i]).1 t) (hk I _ hIi hm) (hk T _ hTi hts) hit hlk hx hIi (fun s' Q' E' hs' hq' => ?_) fun u h' h'' tk pu hit' hs' e'' => ?_
    · have gl' : Gl K s'.heap := gl.ext fun b o e => (hs'.2 b (fun q => by rw [q, hbi] at e; cases e)).trans (hk b o (fun q => by rw [q, hbi] at e; cases e) (e0 b o e))
      refine (fn (items[i]).1).run A.in1 s' [] _ Q' E' room.in1 gl' (fun _ h => by cases h) (.cons (.str _ _) .nil) fun v h' tk e' p => ?_
      exact hq' v h' tk e' p.strE
    · obtain ⟨t, rfl⟩ := pu
      exact hQ _ h'' tk ⟨(items[i]).1, (items[i]).2, t, by simp [hi], rfl⟩ ⟨fun b o hb e => e'' b o ((hs'.2 b hb).trans (hk b o hb e)), hit'.at fun o e => e'' it o e⟩ fun b o hb e => e'' b o ((hs'.2 b (fun q => hb (by rw [q]; exact List.mem_singleton.mpr rfl))).trans e)
  done := fun s Q E hst hQ => by
    obtain ⟨hk, hit⟩ := hst
    have hlk : s.heap.IsList l (strValues items).toArray := by obtain ⟨o, ho, r⟩ := hl; exact ⟨o, hk l o hli ho, r⟩
    refine map_end room.hd (hk I _ hIi hm) (hk T _ hTi hts) hit hlk (by simp [strValues]) fun h' he' => ?_
    exact hQ h' s.toks fun b o hb e => he' b o (fun q => hb (by rw [q]; exact List.mem_singleton.mpr rfl)) e
  self := fun i s Q E hst hQ => pyIter_map (hst.1 I _ hIi hm) hQ
theorem collect_map {I T f : Addr} {fp : List Addr} {it : Addr} {n : Nat} {P : Nat → Value → Prop} {Stt : Nat → Heap → Prop} {Q : List Value → Shared → Prop} (W : Walks prog w A.in1 I fp [it] n P Stt) (hM : ∀ i h, Stt i h → IsMap h I T f) (hst : Stt 0 s.heap) (hfp : ∀ b ∈ fp, b < s.heap.objs.size) (hI : I ∈ fp)
    (hQ : ∀ acc h' tk, (∀ b o, b ∉ [it] → s.heap.get? b = some o → h'.get? b = some o) → ItemsOf P acc n → Q acc.toList { s with heap := h', toks := tk }) (hn : n ≤ sizeLine) : wpAny (model prog w) A (collect (.ref I)) Q E s := by
  have WS := W.toS
  have hT : ∀ (i : Nat) (s' : Shared), Stt i s'.heap → s'.TypeIs (.ref I) "map" := fun i s' q => ⟨_, hM i _ q, rfl⟩
  have newNot : s.heap.objs.size ∉ fp := fun hm => Nat.lt_irrefl _ (hfp _ hm)
  have newI : s.heap.objs.size ≠ I := fun e => newNot (e ▸ hI)
  generalize hO : ({ cls := .type "list", data := .seq ([] : List Value).toArray } : Obj) = O
  have hO' : O = lObj ([] : List Value).toArray 0 := hO.symm
  unfold collect
  refine wpAny_bind (wpAny_runValue (codeAny_builtin PySem.F.entry_proto_collect ?_))
  rw [Around.under_plainId PySem.F.plain_proto_collect _]
  show wpAny _ A.in1 (newList [] >>= fun l => again (.builtin "list.__iadd__" ⟨[l, .ref I], []⟩)) _ _ s
  refine wpAny_bind (wpAny_newObj_type ?_)
  refine wpAny_pure ⟨plainId_quiet PySem.F.plain_list_iadd _, codeAny_builtin PySem.F.entry_list_iadd ?_⟩
  rw [Around.under_plainId PySem.F.plain_list_iadd _]
  rw [hO]
  have hst₁ : Stt 0 (s.heap.push O) := W.frame 0 _ _ hst fun b _ o e => Heap.get?_push_of_some _ e
  have hS₁ : (s.heap.push O).get? s.heap.objs.size = some (lObj ([] : List Value).toArray 0) := by rw [hO']; exact Heap.get?_push_size _ rfl
  show wpAny _ A.in1 (Builtin.List.listExtendWith (.ref s.heap.objs.size) (.ref I) (.ref s.heap.objs.size)) _ _ _
  unfold Builtin.List.listExtendWith
  refine wpAny_bind (wpAny_typeOf (hT 0 _ hst₁) ?_)
  have h1 : Builtin.List.listSameRef (.ref s.heap.objs.size) (.ref I) = false := by simp [Builtin.List.listSameRef, newI]
  have h2 : (Value.type "map" == Value.type "list") = false := by decide
  have h3 : (Value.type "map" == Value.type "tuple") = false := by decide
  simp only [h1, h2, h3, Bool.or_false, Bool.false_eq_true, if_false]
  refine wpAny_bind (WS.self 0 _ _ _ hst₁ ?_)
  refine wpAny_bind (wpAny_holding ?_)
  unfold Builtin.List.listLengthHint
  refine wpAny_bind (wpAny_specialOf (hT 0 _ hst₁) nolen_map ?_)
  show wpAny _ A.in1 (specialOf (Value.ref I) (Str.ofString "__length_hint__") >>= _) _ _ _
  refine wpAny_bind (wpAny_specialOf (hT 0 _ hst₁) nohint_map ?_)
  refine wpAny_pure ?_
  show wpAny _ A.in1 (rule "list.extend.makes-room" >>= fun _ => Builtin.List.listTouch (.ref s.heap.objs.size) >>= fun _ =>
    again (.builtin "list.extend.loop" ⟨[.ref s.heap.objs.size, .ref I, .ref s.heap.objs.size], []⟩)) _ _ _
  refine wpAny_bind (wpAny_rule ?_)
  refine wpAny_bind ?_
  show wpAny _ A.in1 (updateSeq s.heap.objs.size (·.push .none) >>= fun _ => updateSeq s.heap.objs.size (·.pop)) _ _ _
  refine wpAny_bind (wpAny_updateSeq hS₁ rfl ?_)
  have hS₂ := Heap.get?_update_self (Obj.mapSeq (·.push Value.none)) hS₁ rfl
  refine wpAny_updateSeq hS₂ rfl ?_
  have hS₃ := Heap.get?_update_self (Obj.mapSeq (·.pop)) hS₂ rfl
  have old : ∀ b o, b ≠ s.heap.objs.size → (s.heap.push O).get? b = some o → (((s.heap.push O).update s.heap.objs.size (Obj.mapSeq (·.push Value.none))).update s.heap.objs.size (Obj.mapSeq (·.pop))).get? b = some o :=
    fun b o hb e => (Heap.get?_update_other _ _ (Ne.symm hb)).trans ((Heap.get?_update_other _ _ (Ne.symm hb)).trans e)
  have hst₃ : Stt 0 (((s.heap.push O).update s.heap.objs.size (Obj.mapSeq (·.push Value.none))).update s.heap.objs.size (Obj.mapSeq (·.pop))) :=
    W.frame 0 _ _ hst₁ fun b hb o e => old b o (fun h => newNot (h ▸ hb)) e
  refine wpAny_pure ⟨plainId_quiet PySem.F.plain_extend_loop _, codeAny_extend_loopS WS hn _ newNot _ n 0 _ _ _ rfl (Nat.zero_le _) hst₃ hS₃ (ItemsOf.nil P) fun s' acc' c' hm hS' hacc => ?_⟩
  show wpAny _ A (load s.heap.objs.size >>= _) _ _ s'
  refine wpAny_bind (wpAny_load hS' ?_)
  obtain ⟨h', g', d', tk', os'⟩ := s'
  have e1 : g' = s.gens := hm.gens
  have e2 : d' = s.drawn := hm.drawn
  have e3 : os' = s.os := hm.os
  subst e1; subst e2; subst e3
  refine wpAny_pure (hQ acc' h' tk' (fun b o hb e => ?_) hacc)
  have hbs : b ≠ s.heap.objs.size := Nat.ne_of_lt (Heap.lt_size e)
  refine hm.heap b o (fun q => ?_) (old b o hbs (Heap.get?_push_of_some _ e))
  rcases List.mem_cons.mp q with q | q
  · exact hbs q
  · exact hb q

theorem tuple_new_map {I T f : Addr} {fp : List Addr} {it : Addr} {n : Nat} {P : Nat → Value → Prop} {Stt : Nat → Heap → Prop} :
    MeetsIn prog w (Builtin.«tuple.__new__» ⟨[.type "tuple", .ref I], []⟩) (fun A R s => (Walks prog w A.in1.in1 I fp [it] n P Stt ∧ (∀ i h, Stt i h → IsMap h I T f) ∧ Stt 0 s.heap ∧ (∀ b ∈ fp, b < s.heap.objs.size) ∧ I ∈ fp ∧ n ≤ sizeLine) ∧
      (∀ (acc : Array Value) (h' : Heap) (tk : Nat), (∀ b o, b ∉ [it] → s.heap.get? b = some o → h'.get? b = some o) → ItemsOf P acc n → R (.ok (.ret (.ref h'.objs.size))) { s with heap := h'.push { cls := .type "tuple", data := .seq acc }, toks := tk })) :=
  .of_wp fun A R s h => by
    obtain ⟨hp, g, d, tk, os⟩ := s
    obtain ⟨⟨W, hM, hst, hfp, hI, hn⟩, hR⟩ := h
    have hsub := PySem.sub_tuple_self
    have hinit := init_tuple_lookup
    have hmh := madeHere_tuple
    have hT : Shared.TypeIs ⟨hp, g, d, tk, os⟩ (.ref I) "map" := ⟨_, hM 0 _ hst, rfl⟩
    wp_walk using wpAny_typeOf hT, collect_map W hM hst hfp hI
    · intro acc h' tk' hk hacc
      show wpAny _ _ (Builtin.Tuple.tupleExact acc.toList.toArray >>= fun v => ret v) _ _ _
      unfold Builtin.Tuple.tupleExact
      refine wpAny_bind (wpAny_newObj_type ?_ (by show acc.toList.toArray.size ≤ sizeLine; simpa [hacc.1] using hn))
      refine wpAny_pure ⟨_, rfl, ?_⟩
      have e : acc.toList.toArray = acc := by simp
      rw [e]
      exact hR acc h' tk' hk hacc
    · exact hn
end

section
variable {c : Cx}
theorem mapH_facts (h : Heap) (l f : Addr) : IsMap (mapH3 h l f) (mapH2 h l).objs.size (mapH1 h l).objs.size f ∧ IsIts (mapH3 h l f) (mapH1 h l).objs.size h.objs.size ∧ (mapH3 h l f).IsListIter h.objs.size l 0 ∧
    (mapH1 h l).objs.size = h.objs.size + 1 ∧ (mapH2 h l).objs.size = h.objs.size + 2 ∧ (mapH3 h l f).objs.size = h.objs.size + 3 ∧ (∀ b o, h.get? b = some o → (mapH3 h l f).get? b = some o) := by
  have z1 : (mapH1 h l).objs.size = h.objs.size + 1 := Heap.size_push ..
  have z2 : (mapH2 h l).objs.size = h.objs.size + 2 := by rw [Heap.size_push, z1]
  have z3 : (mapH3 h l f).objs.size = h.objs.size + 3 := by rw [Heap.size_push, z2]
  refine ⟨Heap.get?_push_size _ rfl, Heap.get?_push_of_some _ (Heap.get?_push_size _ rfl), ⟨_, Heap.get?_push_of_some _ (Heap.get?_push_of_some _ (Heap.get?_push_size _ rfl)), rfl, rfl⟩, z1, z2, z3, fun b o e => ?_⟩
  exact Heap.get?_push_of_some _ (Heap.get?_push_of_some _ (Heap.get?_push_of_some _ e))
theorem Bi.tupleMap {k : Nat} {a : Addr} {xs : List Str} (room : Room c.A (k + 4)) (fn : ∀ x, Fn c.prog c.w c.K k a [.str x] (.str x)) (hn : xs.length ≤ 100000) (s : Shared) (l : Addr) (items : Array Value) (Q : Value → Shared → Prop) (E : Value → Shared → Prop)
    (sv : Sv c s.heap) (hl : s.heap.IsList l items) (rs : Reps (hide c.mu s.heap) items.toList (xs.map D.str))
    (h : ∀ v h' tk, Ext s.heap h' → Rep (hide c.mu h') v (.tup (xs.map D.str)) → Q v { s with heap := h', toks := tk }) :
    wpAny c.M c.A (call (.type "map") [.ref a, .ref l]) (fun m s' => wpAny c.M c.A (call (.type "tuple") [m]) Q E s') E s := by
  obtain ⟨its, hits, hits'⟩ := strs_reps rs
  have ei : items = (strValues its).toArray := by rw [← hits]
  subst ei
  have hlen : its.length = xs.length := by rw [← hits']; simp
  obtain ⟨m1, m2, m3, z1, z2, z3, e3⟩ := mapH_facts s.heap l a
  have hll : l < s.heap.objs.size := by obtain ⟨o, ho, _⟩ := hl; exact Heap.lt_size ho
  refine callType_new called_map (by decide) (typeCall_map_2 _ _) (newCall_map_2 _ _) (fun obj => PySem.F.args_object_init_3 obj _ _) entry_map_new (meets_map_new a l _) ⟨hl, ⟨_, m1, rfl⟩, ?_⟩
  generalize hH : mapH3 s.heap l a = H at m1 m2 m3 z3 e3
  have W := Walks.mapStr (prog := c.prog) (w := c.w) (A := c.A.in1.in1.in1) (room.in1.in1.in1) fn sv.gl e3 (none_at_size s.heap) m1 m2 (items := its) (l := l)
    (by obtain ⟨o, ho, r⟩ := hl; exact ⟨o, e3 l o ho, r⟩) (by rw [z2]; exact Nat.ne_of_gt (Nat.lt_add_of_pos_right (by decide))) (by rw [z1]; exact Nat.succ_ne_self _) (Nat.ne_of_lt hll) (by rw [z3]; exact Nat.lt_add_of_pos_right (by decide))
  refine callType_newIn PySem.F.called_tuple (by decide) (PySem.F.typeCall_tuple_1 _) (PySem.F.newCall_tuple_1 _) (fun obj => PySem.F.args_object_init_2 obj _) PySem.F.entry_tuple_new (tuple_new_map (T := (mapH1 s.heap l).objs.size) (f := a))
    ⟨⟨W, fun i h q => ?_, ⟨fun b o _ e => e, m3⟩, fun b hb => List.mem_range.mp hb, ?_, sz _ (by omega)⟩, fun acc h' tk hk hacc => ⟨⟨_, Heap.get?_push_size _ rfl, rfl⟩, ?_⟩⟩
  · exact q.1 _ _ (by rw [z2]; exact Nat.ne_of_gt (Nat.lt_add_of_pos_right (by decide))) m1
  · exact List.mem_range.mpr (Heap.lt_size m1)
  · have ext : Ext s.heap h' := fun b o e => hk b o (fun q => by rw [List.mem_singleton.mp q, none_at_size] at e; cases e) (e3 b o e)
    refine h _ _ tk (ext.trans (Ext.push _ _)) (Rep.ofTup (vs := acc) ((sv.ext ext).fresh (Nat.le_refl _)) ⟨_, Heap.get?_push_size _ rfl, rfl, _, rfl⟩ ?_)
    have key : ∀ (vs : List Value) (l : List (Str × Tok)) (P : PH), vs.length = l.length → (∀ (j : Nat) (v : Value), vs[j]? = some v → ∃ (x : Str) (t t' : Tok), l[j]? = some (x, t) ∧ v = Value.str x t') → Reps P vs ((l.map (·.1)).map D.str) := by
      intro vs
      induction vs with
      | nil => intro l P hl _; cases l with
        | nil => exact .nil
        | cons _ _ => simp at hl
      | cons v vs ih => intro l P hl hv; cases l with
        | nil => simp at hl
        | cons y l =>
          obtain ⟨x, t, t', h1, rfl⟩ := hv 0 v rfl
          simp at h1; subst h1
          exact .cons (.str _ _) (ih l P (by simpa using hl) fun j u hu => by have := hv (j + 1) u (by simpa using hu); simpa using this)
    rw [← hits']
    exact key acc.toList its _ (by simpa using hacc.1) fun j v hv => hacc.2 j v (by simpa using hv)
theorem Ev.tupleMap {ft fm ff : Str} {p1 p2 p3 p4 p5 : Pos} {arg : Expr} {k : Nat} {a : Addr} {xs : List Str} (ok : EnvOk c.env) (room : Room c.A (k + 4)) (fn : ∀ x, Fn c.prog c.w c.K k a [.str x] (.str x)) (hn : xs.length ≤ 100000)
    (ht : nsIn c.K mainGlobals ft = some none) (htv : bootBuiltins ft = some (.type "tuple")) (htn : ft ≠ Str.ofString "__name__") (htk : c.env.kindOf ft = some .globalImplicit) (htd : (ft == ("__debug__" : Str)) = false)
    (hm : nsIn c.K mainGlobals fm = some none) (hmv : bootBuiltins fm = some (.type "map")) (hmn : fm ≠ Str.ofString "__name__") (hmk : c.env.kindOf fm = some .globalImplicit) (hmd : (fm == ("__debug__" : Str)) = false)
    (hf : nsIn c.K mainGlobals ff = some (some (.ref a))) (hfk : c.env.kindOf ff = some .globalImplicit) (hfd : (ff == ("__debug__" : Str)) = false)
    (ha : Ev c arg (.list (xs.map D.str))) (hst1 : starEach [.Call (.Name fm p2) [.Name ff p3, arg] [] p4] c.env = [(false, eval (.Call (.Name fm p2) [.Name ff p3, arg] [] p4) c.env)])
    (hst2 : starEach [.Name ff p3, arg] c.env = [(false, eval (.Name ff p3) c.env), (false, eval arg c.env)]) :
    Ev c (.Call (.Name ft p1) [.Call (.Name fm p2) [.Name ff p3, arg] [] p4] [] p5) (.tup (xs.map D.str)) := by
  refine ⟨fun s Q E sv h => ?_⟩
  obtain ⟨mg, hg, hmg⟩ := sv.gl.g
  obtain ⟨mb, hgb, hmb⟩ := sv.gl.b
  refine wpAny_Call_Name_kw (Calls.Name_function_global ok.fn htk (Calls.loadGlobal_builtin (by rw [ok.gg]; exact hg) (hmg _ _ ht) (by rw [ok.bb]; exact hgb) ((hmb ft htn).trans htv) ?_) htd)
  refine PyProof.Rows.callWith_type (by rw [hst1]; rfl) ?_
  rw [hst1]
  show wpAny c.M c.A (evalArgs (.type "tuple") true ((false, eval (.Call (.Name fm p2) [.Name ff p3, arg] [] p4) c.env) :: backTo p5 []) []) _ E s
  refine Calls.evalArgs_plain (Calls.spliced_cons ?_)
  refine wpAny_Call_Name_kw (Calls.Name_function_global ok.fn hmk (Calls.loadGlobal_builtin (by rw [ok.gg]; exact hg) (hmg _ _ hm) (by rw [ok.bb]; exact hgb) ((hmb fm hmn).trans hmv) ?_) hmd)
  refine PyProof.Rows.callWith_type (by rw [hst2]; rfl) ?_
  rw [hst2]
  show wpAny c.M c.A (evalArgs (.type "map") true ((false, eval (.Name ff p3) c.env) :: (false, eval arg c.env) :: backTo p4 []) []) _ E s
  refine Calls.evalArgs_plain (Calls.spliced_cons ?_)
  refine Calls.Name_function_global ok.fn hfk (Calls.loadGlobal_global (by rw [ok.gg]; exact hg) (hmg _ _ hf) ?_) hfd
  refine Calls.spliced_cons (ha.run s _ _ sv fun v h' tk e p => Calls.spliced_nil ?_)
  obtain ⟨ax, items, rfl, hax, hl, rs⟩ := p.listE
  refine wpAny_mono (Bi.tupleMap (Q := Q) (E := E) room fn hn _ ax items (sv.ext e) hl rs fun v h'' tk' e' p' => h v h'' tk' (e.trans e') p') (fun m s' hq => Calls.spliced_nil hq) fun _ _ e => e
end
end Mine
end PdVPart
section PdF1Part
open PySem PySem.W PyProof.Rows
namespace Mine
noncomputable section
def fdOf (P : Params) (a : Addr) : FuncData := match (hd.heap_39 P).lookup a with
  | some ⟨_, _, .func fd, _⟩ => fd
  | _ => default
def bodyOf (P : Params) (a : Addr) : List Stmt := match (fdOf P a).body with
  | .stmts b => b
  | _ => []
abbrev PR := PySem.Challenge.rw_pd0136_01.row.prog
local macro_rules | `(tactic| walk_at "ev1") => `(tactic| first
  | with_reducible apply Ev.str
  | with_reducible apply Ev.int
  | with_reducible apply Ev.bool
  | ((with_reducible refine' Ev.name ?k1 ?k2 ?k3 ?k4); (case k1 => assumption); (case k2 => rfl); (case k3 => rfl); (case k4 => rfl))
  | ((with_reducible refine' Ev.nameT ?k1 ?k2 ?k3 ?k4 ?k5 ?k6); (case k2 => rfl); (case k3 => rfl); (case k1 => assumption); (case k4 => decide); (case k5 => rfl); (case k6 => rfl))
  | with_reducible refine' Ev.tuple ?_ ?_
  | with_reducible refine' Ev.list ?_ ?_
  | with_reducible refine' Ev.bin ?_ ?_ ?_
  | with_reducible refine' Ev.neg ?_
  | ((with_reducible refine' Ev.cmp ?_ ?_ ?_ ?k4); (case k4 => rfl))
  | ((with_reducible refine' Tr.cmp ?_ ?_ ?_ ?k4); (case k4 => rfl))
  | with_reducible refine' Tr.not ?_
  | with_reducible apply Evs.nil
  | ((with_reducible refine' Evs.cons ?_ ?_ ?k3); (case k3 => rfl))
  | with_reducible apply Part.none
  | with_reducible refine' Part.some ?_
  | with_reducible refine' Ev.slice2 ?_ ?_ ?_ ?_
  | with_reducible refine' Ev.slice3 ?_ ?_ ?_ ?_ ?_ ?_
  | with_reducible refine' Ev.item ?_ ?_ ?_
  | ((with_reducible refine' Ev.methS ?_ ?_ ?k3 ?_ ?k5 ?k6); (case k3 => rfl); (case k5 => rfl); (case k6 => rfl))
  | ((with_reducible refine' Ev.call ?k1 ?k2 ?k3 ?k4 ?k5 ?_ ?k7 ?_ ?k9); (case k2 => rfl); (case k1 => assumption); (case k3 => rfl); (case k4 => rfl); (case k5 => rfl); (case k7 => rfl); (case k9 => rfl))
  | ((with_reducible refine' Ev.callB ?k1 ?k2 ?k3 ?k4 ?k5 ?_ ?k7 ?_ ?k9); (case k2 => rfl); (case k3 => rfl); (case k1 => assumption); (case k4 => decide); (case k5 => rfl); (case k7 => rfl); (case k9 => rfl))
  | ((with_reducible refine' Ev.callT ?k1 ?k2 ?k3 ?k4 ?k5 ?_ ?k7 ?_ ?k9); (case k2 => rfl); (case k3 => rfl); (case k1 => assumption); (case k4 => decide); (case k5 => rfl); (case k7 => rfl); (case k9 => rfl)))
local macro_rules | `(tactic| walk_at "srch") => `(tactic| ((refine' Tr.search (by assumption) ?g1 ?g2 ?g3 ?g4 ?ha ?hz ?g7 ?g8 ?g9 ?g10); (case g1 => rfl); (case g2 => rfl); (case g3 => rfl); (case g4 => rfl); (case g7 => rfl); (case g8 => rfl); (case g9 => rfl); (case g10 => (intro _; rfl)); (case ha => walk_at "ev1"); (case hz => omega)))

theorem fin_of {c : Cx} {s₀ : Shared} {mu : List Addr} {d d' : D} {Q : Flow → Shared → Prop} (h : ∀ v s', Done s₀ mu d v s' → Q (.ret v) s') (hm : ∀ b ∈ mu, b ∈ c.mu) (hd : d' = d) :
    ∀ v s', St c s₀ s' → Rep (hide c.mu s'.heap) v d' → Q (.ret v) s' := by
  subst hd
  exact fun v s' st p => h v s' (st.done hm p)
theorem mu_r {own mu : List Addr} : ∀ b ∈ mu, b ∈ own ++ mu := fun _ hb => List.mem_append_right _ hb
theorem at57 (P : Params) : FnAt (hd.heap_39 P) 57 (fdOf P 57) (bodyOf P 57) := ⟨⟨_, rfl, rfl⟩, by rfl, rfl, rfl, rfl, rfl, rfl, rfl, rfl⟩
theorem bind57 (P : Params) (v : Value) : bindArgs (fdOf P 57) ⟨[v], []⟩ = pure [(Str.ofString "text", v)] := by kernel_rfl

theorem body57 (w : World) (x : Str) (hx : x.length ≤ 1000) : BodyDoes PR w (hd.heap_39 w.params) 20 57 (fdOf w.params 57) (bodyOf w.params 57) (rho1 (Str.ofString "text") (.str x)) (.bool (!ipv4 x)) := by
  refine ⟨?_⟩
  intro A L mu s₀ s Q E room gl st h
  have ok := st.ok
  show wpAny _ _ (execs (.If _ _ _ _ :: .Return (some _) _ :: []) _) _ _ _
  refine' st.if_ (b := ipv4 x) ?ht ?h1 ?h2
  case ht => walk_at "srch"
  case h1 =>
    intro hb s' st'
    show wpAny _ _ (execs (.Return (some _) _ :: []) _) _ _ _
    refine' st'.ret (d := .bool false) ?_ (fin_of h mu_r (by rw [hb]; rfl))
    walk_at "ev1"
  case h2 =>
    intro hb s' st'
    refine wpAny_execs_nil ?_
    refine' st'.ret (d := .bool true) ?_ (fin_of h mu_r (by rw [hb]; rfl))
    walk_at "ev1"
theorem fn57 (w : World) (x : Str) (hx : x.length ≤ 1000) : Fn PR w (hd.heap_39 w.params) 21 57 [.str x] (.bool (!ipv4 x)) :=
  Fn.intro1 (n := Str.ofString "text") (at57 w.params) (bind57 w.params) (fun _ => List.nodup_nil) (.inl rfl) (body57 w x hx)
theorem at50 (P : Params) : FnAt (hd.heap_39 P) 50 (fdOf P 50) (bodyOf P 50) := ⟨⟨_, rfl, rfl⟩, by rfl, rfl, rfl, rfl, rfl, rfl, rfl, rfl⟩
theorem bind50 (P : Params) (v : Value) : bindArgs (fdOf P 50) ⟨[v], []⟩ = pure [(Str.ofString "text", v)] := by kernel_rfl

def isHDN (x : Str) : Bool := if ipv4 x = true then false else if (cl x == []) = true then false else if ((cl x).head? == some 46 || (cl x).getLast? == some 46) = true then false else true
theorem item_first {x : Str} {a : Nat} {r : List Nat} (h : cl x = a :: r) : (Txt.charAt x 0).isSome = true ∧ cl (Txt.item x 0) = [a] := by
  have hl : x.length = r.length + 1 := by rw [← cl_len, h]; rfl
  have e : Txt.charAt x 0 = some a := by
    unfold Txt.charAt
    rw [StrLaws.seqIndex_nonneg (by omega) (by omega)]
    show x.cps[0]? = some a
    have : x.cps.toList[0]? = some a := by show (cl x)[0]? = _; rw [h]; rfl
    simpa using this
  refine ⟨by rw [e]; rfl, ?_⟩
  unfold Txt.item; rw [e]; rfl
theorem item_last {x : Str} {a : Nat} {l : List Nat} (h : cl x = l ++ [a]) : (Txt.charAt x (-1)).isSome = true ∧ cl (Txt.item x (-1)) = [a] := by
  have hl : x.length = l.length + 1 := by rw [← cl_len, h]; simp
  have e : Txt.charAt x (-1) = some a := by
    unfold Txt.charAt
    rw [StrLaws.seqIndex_neg (by omega) (by omega)]
    have e2 : (-1 + (x.length : Int)).toNat = l.length := by omega
    rw [e2]
    show x.cps[l.length]? = some a
    have : x.cps.toList[l.length]? = some a := by show (cl x)[l.length]? = _; rw [h]; simp
    simpa using this
  refine ⟨by rw [e]; rfl, ?_⟩
  unfold Txt.item; rw [e]; rfl
theorem dot_is : (Str.ofString ".").cps.toList = [46] := by decide +kernel
theorem empty_is : (Str.ofString "").cps.toList = [] := by decide +kernel
theorem body50 (w : World) (x : Str) (hx : x.length ≤ 1000) : BodyDoes PR w (hd.heap_39 w.params) 20 50 (fdOf w.params 50) (bodyOf w.params 50) (rho1 (Str.ofString "text") (.str x)) (.bool (isHDN x)) := by
  refine ⟨?_⟩
  intro A L mu s₀ s Q E room gl st h
  have ok := st.ok
  show wpAny _ _ (execs (.If _ _ _ _ :: .If _ _ _ _ :: .If _ _ _ _ :: .Return (some _) _ :: []) _) _ _ _
  refine' st.if_ (b := ipv4 x) ?ht ?h1 ?h2
  case ht => walk_at "srch"
  case h1 =>
    intro hb s' st'
    show wpAny _ _ (execs (.Return (some _) _ :: []) _) _ _ _
    refine' st'.ret (d := .bool false) ?_ (fin_of h mu_r (by unfold isHDN; rw [hb]; rfl))
    walk_at "ev1"
  case h2 =>
    intro hb s' st'
    refine wpAny_execs_nil ?_
    refine' st'.if_ (b := cl x == []) ?ht ?h1 ?h2
    case ht =>
      refine' Tr.eq ?qa ?qb
      case qa => (repeat' walk_at "ev1"); (any_goals exact CmpR.eqS)
      case qb => show (cl x == (Str.ofString "").cps.toList) = _; rw [empty_is]
    case h1 =>
      intro hb2 s' st'
      show wpAny _ _ (execs (.Return (some _) _ :: []) _) _ _ _
      refine' st'.ret (d := .bool false) ?_ (fin_of h mu_r (by unfold isHDN; rw [hb, hb2]; rfl))
      walk_at "ev1"
    case h2 =>
      intro hb2 s' st'
      refine wpAny_execs_nil ?_
      have hne : cl x ≠ [] := by simpa using hb2
      obtain ⟨a, r, ha⟩ := List.exists_cons_of_ne_nil hne
      obtain ⟨l, z, hz⟩ : ∃ l z, cl x = l ++ [z] := ⟨_, _, (List.dropLast_concat_getLast hne).symm⟩
      obtain ⟨i1, i2⟩ := item_first ha
      obtain ⟨j1, j2⟩ := item_last hz
      have e1 : ([a] == [46]) = ((cl x).head? == some 46) := by rw [ha]; simp
      have e2 : ([z] == [46]) = ((cl x).getLast? == some 46) := by rw [hz]; simp
      refine' st'.if_ (b := (cl x).head? == some 46 || (cl x).getLast? == some 46) ?ht ?h1 ?h2
      case ht =>
        refine' Tr.or2 ?ra (fun _ => ?rb)
        case ra =>
          refine' Tr.eq ?qa ?qb
          case qa => (repeat' walk_at "ev1"); (any_goals exact ItemR.str i1 (by decide)); (any_goals exact CmpR.eqS)
          case qb => show (cl (Txt.item x 0) == (Str.ofString ".").cps.toList) = _; rw [dot_is, i2, e1]
        case rb =>
          refine' Tr.eq ?qa ?qb
          case qa => (repeat' walk_at "ev1"); (any_goals exact ItemR.str j1 (by decide)); (any_goals exact CmpR.eqS)
          case qb => show (cl (Txt.item x (-1)) == (Str.ofString ".").cps.toList) = _; rw [dot_is, j2, e2]
      case h1 =>
        intro hb3 s' st'
        show wpAny _ _ (execs (.Return (some _) _ :: []) _) _ _ _
        refine' st'.ret (d := .bool false) ?_ (fin_of h mu_r (by unfold isHDN; rw [hb, hb2, hb3]; rfl))
        walk_at "ev1"
      case h2 =>
        intro hb3 s' st'
        refine wpAny_execs_nil ?_
        refine' st'.ret (d := .bool true) ?_ (fin_of h mu_r (by unfold isHDN; rw [hb, hb2, hb3]; rfl))
        walk_at "ev1"
theorem fn50 (w : World) (x : Str) (hx : x.length ≤ 1000) : Fn PR w (hd.heap_39 w.params) 21 50 [.str x] (.bool (isHDN x)) :=
  Fn.intro1 (n := Str.ofString "text") (at50 w.params) (bind50 w.params) (fun _ => List.nodup_nil) (.inl rfl) (body50 w x hx)
end
end Mine
end PdF1Part
section PdF2Part
open PySem PySem.W PyProof.Rows
namespace Mine
noncomputable section
local macro_rules | `(tactic| walk_at "ev1") => `(tactic| first
  | with_reducible apply Ev.str
  | with_reducible apply Ev.int
  | with_reducible apply Ev.bool
  | ((with_reducible refine' Ev.name ?k1 ?k2 ?k3 ?k4); (case k1 => assumption); (case k2 => rfl); (case k3 => rfl); (case k4 => rfl))
  | ((with_reducible refine' Ev.nameT ?k1 ?k2 ?k3 ?k4 ?k5 ?k6); (case k2 => rfl); (case k3 => rfl); (case k1 => assumption); (case k4 => decide); (case k5 => rfl); (case k6 => rfl))
  | with_reducible refine' Ev.tuple ?_ ?_
  | with_reducible refine' Ev.list ?_ ?_
  | with_reducible refine' Ev.bin ?_ ?_ ?_
  | with_reducible refine' Ev.neg ?_
  | ((with_reducible refine' Ev.cmp ?_ ?_ ?_ ?k4); (case k4 => rfl))
  | ((with_reducible refine' Tr.cmp ?_ ?_ ?_ ?k4); (case k4 => rfl))
  | with_reducible refine' Tr.not ?_
  | with_reducible apply Evs.nil
  | ((with_reducible refine' Evs.cons ?_ ?_ ?k3); (case k3 => rfl))
  | with_reducible apply Part.none
  | with_reducible refine' Part.some ?_
  | with_reducible refine' Ev.slice2 ?_ ?_ ?_ ?_
  | with_reducible refine' Ev.slice3 ?_ ?_ ?_ ?_ ?_ ?_
  | with_reducible refine' Ev.item ?_ ?_ ?_
  | ((with_reducible refine' Ev.methS ?_ ?_ ?k3 ?_ ?k5 ?k6); (case k3 => rfl); (case k5 => rfl); (case k6 => rfl))
  | ((with_reducible refine' Ev.call ?k1 ?k2 ?k3 ?k4 ?k5 ?_ ?k7 ?_ ?k9); (case k2 => rfl); (case k1 => assumption); (case k3 => rfl); (case k4 => rfl); (case k5 => rfl); (case k7 => rfl); (case k9 => rfl))
  | ((with_reducible refine' Ev.callB ?k1 ?k2 ?k3 ?k4 ?k5 ?_ ?k7 ?_ ?k9); (case k2 => rfl); (case k3 => rfl); (case k1 => assumption); (case k4 => decide); (case k5 => rfl); (case k7 => rfl); (case k9 => rfl))
  | ((with_reducible refine' Ev.callT ?k1 ?k2 ?k3 ?k4 ?k5 ?_ ?k7 ?_ ?k9); (case k2 => rfl); (case k3 => rfl); (case k1 => assumption); (case k4 => decide); (case k5 => rfl); (case k7 => rfl); (case k9 => rfl)))
local macro_rules | `(tactic| walk_at "srch") => `(tactic| ((refine' Tr.search (by assumption) ?g1 ?g2 ?g3 ?g4 ?ha ?hz ?g7 ?g8 ?g9 ?g10); (case g1 => rfl); (case g2 => rfl); (case g3 => rfl); (case g4 => rfl); (case g7 => rfl); (case g8 => rfl); (case g9 => rfl); (case g10 => (intro _; rfl)); (case ha => walk_at "ev1"); (case hz => omega)))
theorem at71 (P : Params) : FnAt (hd.heap_39 P) 71 (fdOf P 71) (bodyOf P 71) := ⟨⟨_, rfl, rfl⟩, by rfl, rfl, rfl, rfl, rfl, rfl, rfl, rfl⟩
theorem bind71 (P : Params) (v : Value) : bindArgs (fdOf P 71) ⟨[v], []⟩ = pure [(Str.ofString "h", v)] := by kernel_rfl

def reachF (x : Str) : Str :=
  if 0 ≤ Txt.find x (Str.ofString ".") then
    if (isHDN x && (decide (0 ≤ Txt.find (slS x (some (Txt.find x (Str.ofString ".") + 1)) none) (Str.ofString ".")) || cl (slS x (some (Txt.find x (Str.ofString ".") + 1)) none) == cl (Str.ofString "local"))) = true then
      Str.ofString "." ++ slS x (some (Txt.find x (Str.ofString ".") + 1)) none
    else x
  else x
theorem slS_le (x : Str) (lo hi : Option Int) : (slS x lo hi).length ≤ x.length := by
  unfold slS
  split
  · exact Nat.le_refl _
  · show (((Builtin.Str.strSliceIndices lo hi 1 x.length).filterMap (x.cps[·]?)).toArray).size ≤ _
    rw [List.size_toArray]
    exact Nat.le_trans (List.length_filterMap_le _ _) (sliceIndices_le _ _ _)
theorem body71 (w : World) (x : Str) (hx : x.length ≤ 1000) : BodyDoes PR w (hd.heap_39 w.params) 30 71 (fdOf w.params 71) (bodyOf w.params 71) (rho1 (Str.ofString "h") (.str x)) (.str (reachF x)) := by
  refine ⟨?_⟩
  intro A L mu s₀ s Q E room gl st h
  have ok := st.ok
  show wpAny _ _ (execs (.Assign [.Name _ _] _ _ :: .If _ _ _ _ :: .Return (some _) _ :: []) _) _ _ _
  refine' st.assign gl (d := .int (Txt.find x (Str.ofString "."))) ?he1 (.inl rfl) (fun _ _ _ e => by cases e) rfl ?k1
  case he1 => (repeat' walk_at "ev1"); (any_goals exact Bi.find)
  intro s1 st1
  refine' st1.if_ (b := decide (Txt.find x (Str.ofString ".") ≥ 0)) ?ht1 ?p1 ?q1
  case ht1 => (repeat' walk_at "ev1"); (any_goals exact CmpR.geI)
  case q1 =>
    intro hb s2 st2
    refine wpAny_execs_nil ?_
    refine' st2.ret (d := .str x) ?_ (fin_of h mu_r (by unfold reachF; rw [if_neg (by simpa using hb)]))
    walk_at "ev1"
  case p1 =>
    intro hb s2 st2
    have hb' : 0 ≤ Txt.find x (Str.ofString ".") := by simpa using hb
    show wpAny _ _ (execs (.Assign [.Name _ _] _ _ :: .Assign [.Name _ _] _ _ :: .If _ _ _ _ :: []) _) _ _ _
    refine' st2.assign gl (d := .str (slS x (some (Txt.find x (Str.ofString ".") + 1)) none)) ?he2 (.inl rfl) (fun _ _ _ e => by cases e) rfl ?k2
    case he2 => (repeat' walk_at "ev1"); (any_goals exact BinR.addI); (any_goals exact SliceR.str (by omega))
    intro s3 st3
    generalize hbb : slS x (some (Txt.find x (Str.ofString ".") + 1)) none = b at st3
    have hbl : b.length ≤ 1000 := by rw [← hbb]; exact Nat.le_trans (slS_le _ _ _) hx
    refine' st3.assign gl (d := .int (Txt.find b (Str.ofString "."))) ?he3 (.inl rfl) (fun _ _ _ e => by cases e) rfl ?k3
    case he3 => (repeat' walk_at "ev1"); (any_goals exact Bi.find)
    intro s4 st4
    refine' st4.if_ (b := isHDN x && (decide (Txt.find b (Str.ofString ".") ≥ 0) || cl b == cl (Str.ofString "local"))) ?ht2 ?p2 ?q2
    case ht2 =>
      refine' Tr.and2 ?ra (fun _ => ?rb)
      case ra =>
        refine' Tr.val ?sa ?sb
        case sb => intro _; rfl
        case sa => (repeat' walk_at "ev1"); (any_goals exact (fn50 w x hx).bi (room.le (by omega)))
      case rb =>
        refine' Tr.or2 ?rc (fun _ => ?rd)
        case rc => (repeat' walk_at "ev1"); (any_goals exact CmpR.geI)
        case rd => (repeat' walk_at "ev1"); (any_goals exact CmpR.eqS)
    case p2 =>
      intro hb2 s5 st5
      show wpAny _ _ (execs (.Return (some _) _ :: []) _) _ _ _
      refine' st5.ret (d := .str (Str.ofString "." ++ b)) ?_ (fin_of h mu_r (by unfold reachF; rw [if_pos hb', hbb, if_pos (by simpa using hb2)]))
      (repeat' walk_at "ev1"); (any_goals exact BinR.addS (by have : (Str.ofString ".").length = 1 := by decide +kernel
                                                              omega))
    case q2 =>
      intro hb2 s5 st5
      refine wpAny_execs_nil ?_
      refine wpAny_execs_nil ?_
      refine' st5.ret (d := .str x) ?_ (fin_of h mu_r (by unfold reachF; rw [if_pos hb', hbb, if_neg (by simpa using hb2)]))
      walk_at "ev1"
theorem fn71 (w : World) (x : Str) (hx : x.length ≤ 1000) : Fn PR w (hd.heap_39 w.params) 31 71 [.str x] (.str (reachF x)) :=
  Fn.intro1 (n := Str.ofString "h") (at71 w.params) (bind71 w.params) (fun _ => List.nodup_nil) (.inl rfl) (body71 w x hx)
end
end Mine
end PdF2Part
section PdF3Part
open PySem PySem.W PyProof.Rows
namespace Mine
noncomputable section
local macro_rules | `(tactic| walk_at "ev1") => `(tactic| first
  | with_reducible apply Ev.str
  | with_reducible apply Ev.int
  | with_reducible apply Ev.bool
  | ((with_reducible refine' Ev.name ?k1 ?k2 ?k3 ?k4); (case k1 => assumption); (case k2 => rfl); (case k3 => rfl); (case k4 => rfl))
  | ((with_reducible refine' Ev.nameT ?k1 ?k2 ?k3 ?k4 ?k5 ?k6); (case k2 => rfl); (case k3 => rfl); (case k1 => assumption); (case k4 => decide); (case k5 => rfl); (case k6 => rfl))
  | with_reducible refine' Ev.tuple ?_ ?_
  | with_reducible refine' Ev.list ?_ ?_
  | with_reducible refine' Ev.bin ?_ ?_ ?_
  | with_reducible refine' Ev.neg ?_
  | ((with_reducible refine' Ev.cmp ?_ ?_ ?_ ?k4); (case k4 => rfl))
  | ((with_reducible refine' Tr.cmp ?_ ?_ ?_ ?k4); (case k4 => rfl))
  | with_reducible refine' Tr.not ?_
  | with_reducible apply Evs.nil
  | ((with_reducible refine' Evs.cons ?_ ?_ ?k3); (case k3 => rfl))
  | with_reducible apply Part.none
  | with_reducible refine' Part.some ?_
  | with_reducible refine' Ev.slice2 ?_ ?_ ?_ ?_
  | with_reducible refine' Ev.slice3 ?_ ?_ ?_ ?_ ?_ ?_
  | with_reducible refine' Ev.item ?_ ?_ ?_
  | ((with_reducible refine' Ev.methS ?_ ?_ ?k3 ?_ ?k5 ?k6); (case k3 => rfl); (case k5 => rfl); (case k6 => rfl))
  | ((with_reducible refine' Ev.call ?k1 ?k2 ?k3 ?k4 ?k5 ?_ ?k7 ?_ ?k9); (case k2 => rfl); (case k1 => assumption); (case k3 => rfl); (case k4 => rfl); (case k5 => rfl); (case k7 => rfl); (case k9 => rfl))
  | ((with_reducible refine' Ev.callB ?k1 ?k2 ?k3 ?k4 ?k5 ?_ ?k7 ?_ ?k9); (case k2 => rfl); (case k3 => rfl); (case k1 => assumption); (case k4 => decide); (case k5 => rfl); (case k7 => rfl); (case k9 => rfl))
  | ((with_reducible refine' Ev.callT ?k1 ?k2 ?k3 ?k4 ?k5 ?_ ?k7 ?_ ?k9); (case k2 => rfl); (case k3 => rfl); (case k1 => assumption); (case k4 => decide); (case k5 => rfl); (case k7 => rfl); (case k9 => rfl)))
local macro_rules | `(tactic| walk_at "srch") => `(tactic| ((refine' Tr.search (by assumption) ?g1 ?g2 ?g3 ?g4 ?ha ?hz ?g7 ?g8 ?g9 ?g10); (case g1 => rfl); (case g2 => rfl); (case g3 => rfl); (case g4 => rfl); (case g7 => rfl); (case g8 => rfl); (case g9 => rfl); (case g10 => (intro _; rfl)); (case ha => walk_at "ev1"); (case hz => omega)))
theorem at64 (P : Params) : FnAt (hd.heap_39 P) 64 (fdOf P 64) (bodyOf P 64) := ⟨⟨_, rfl, rfl⟩, by rfl, rfl, rfl, rfl, rfl, rfl, rfl, rfl⟩
theorem bind64 (P : Params) (v v' : Value) : bindArgs (fdOf P 64) ⟨[v, v'], []⟩ = pure [(Str.ofString "A", v), (Str.ofString "B", v')] := by kernel_rfl

def udm (x y : Str) : Bool :=
  if (!(!ipv4 (Txt.lower x) && !ipv4 (Txt.lower y))) = true then cl (Txt.lower x) == cl (Txt.lower y)
  else if (Txt.startswith (Txt.lower y) (Str.ofString ".") && Txt.endswith (Txt.lower x) (Txt.lower y)) = true then true
  else if (!Txt.startswith (Txt.lower y) (Str.ofString ".") && cl (Txt.lower x) == cl (Txt.lower y)) = true then true else false
theorem body64 (w : World) (x y : Str) (hx : (Txt.lower x).length ≤ 1000) (hy : (Txt.lower y).length ≤ 1000) :
    BodyDoes PR w (hd.heap_39 w.params) 30 64 (fdOf w.params 64) (bodyOf w.params 64) (rho2 (Str.ofString "A") (.str x) (Str.ofString "B") (.str y)) (.bool (udm x y)) := by
  refine ⟨?_⟩
  intro A L mu s₀ s Q E room gl st h
  have ok := st.ok
  show wpAny _ _ (execs (.Assign [.Name _ _] _ _ :: .Assign [.Name _ _] _ _ :: .If _ _ _ _ :: .Assign [.Name _ _] _ _ :: .If _ _ _ _ :: .If _ _ _ _ :: .Return (some _) _ :: []) _) _ _ _
  refine' st.assign gl (d := .str (Txt.lower x)) ?he1 (.inl rfl) (fun _ _ _ e => by cases e) rfl ?k1
  case he1 => (repeat' walk_at "ev1"); (any_goals exact Bi.lower (by omega))
  intro s1 st1
  refine' st1.assign gl (d := .str (Txt.lower y)) ?he2 (.inl rfl) (fun _ _ _ e => by cases e) rfl ?k2
  case he2 => (repeat' walk_at "ev1"); (any_goals exact Bi.lower (by omega))
  intro s2 st2
  generalize ha : Txt.lower x = a at *
  generalize hb : Txt.lower y = b at *
  have hu : udm x y = (if (!(!ipv4 a && !ipv4 b)) = true then cl a == cl b else if (Txt.startswith b (Str.ofString ".") && Txt.endswith a b) = true then true else if (!Txt.startswith b (Str.ofString ".") && cl a == cl b) = true then true else false) := by
    unfold udm; rw [ha, hb]
  rw [hu] at h
  clear hu
  refine' st2.if_ (b := !(!ipv4 a && !ipv4 b)) ?ht3 ?p3 ?q3
  case ht3 =>
    refine' Tr.not ?n1
    refine' Tr.and2 ?n2 (fun _ => ?n3)
    case n2 =>
      refine' Tr.val ?n4 ?n5
      case n5 => intro _; rfl
      case n4 => (repeat' walk_at "ev1"); (any_goals exact (fn57 w a hx).bi (room.le (by omega)))
    case n3 =>
      refine' Tr.val ?n6 ?n7
      case n7 => intro _; rfl
      case n6 => (repeat' walk_at "ev1"); (any_goals exact (fn57 w b hy).bi (room.le (by omega)))
  case p3 =>
    intro hb3 s3 st3
    show wpAny _ _ (execs (.If _ _ _ _ :: .Return (some _) _ :: []) _) _ _ _
    refine' st3.if_ (b := cl a == cl b) ?ht4 ?p4 ?q4
    case ht4 => (repeat' walk_at "ev1"); (any_goals exact CmpR.eqS)
    case p4 =>
      intro hb4 s4 st4
      show wpAny _ _ (execs (.Return (some _) _ :: []) _) _ _ _
      refine' st4.ret (d := .bool true) ?_ (fin_of h mu_r (by rw [if_pos hb3, hb4]))
      walk_at "ev1"
    case q4 =>
      intro hb4 s4 st4
      refine wpAny_execs_nil ?_
      refine' st4.ret (d := .bool false) ?_ (fin_of h mu_r (by rw [if_pos hb3, hb4]))
      walk_at "ev1"
  case q3 =>
    intro hb3 s3 st3
    have hb3' : ¬ (!(!ipv4 a && !ipv4 b)) = true := by rw [hb3]; decide
    refine wpAny_execs_nil ?_
    refine' st3.assign gl (d := .bool (Txt.startswith b (Str.ofString "."))) ?he5 (.inl rfl) (fun _ _ _ e => by cases e) rfl ?k5
    case he5 => (repeat' walk_at "ev1"); (any_goals exact Bi.startswith)
    intro s5 st5
    refine' st5.if_ (b := Txt.startswith b (Str.ofString ".") && Txt.endswith a b) ?ht6 ?p6 ?q6
    case ht6 =>
      refine' Tr.and2 ?m1 (fun _ => ?m2)
      case m1 =>
        refine' Tr.val ?m3 ?m4
        case m4 => intro _; rfl
        case m3 => walk_at "ev1"
      case m2 =>
        refine' Tr.val ?m5 ?m6
        case m6 => intro _; rfl
        case m5 => (repeat' walk_at "ev1"); (any_goals exact Bi.endswith)
    case p6 =>
      intro hb6 s6 st6
      show wpAny _ _ (execs (.Return (some _) _ :: []) _) _ _ _
      refine' st6.ret (d := .bool true) ?_ (fin_of h mu_r (by rw [if_neg hb3', if_pos hb6]))
      walk_at "ev1"
    case q6 =>
      intro hb6 s6 st6
      have hb6' : ¬ (Txt.startswith b (Str.ofString ".") && Txt.endswith a b) = true := by rw [hb6]; decide
      refine wpAny_execs_nil ?_
      refine' st6.if_ (b := !Txt.startswith b (Str.ofString ".") && cl a == cl b) ?ht7 ?p7 ?q7
      case ht7 =>
        refine' Tr.and2 ?l1 (fun _ => ?l2)
        case l1 =>
          refine' Tr.not ?l3
          refine' Tr.val ?l4 ?l5
          case l5 => intro _; rfl
          case l4 => walk_at "ev1"
        case l2 => (repeat' walk_at "ev1"); (any_goals exact CmpR.eqS)
      case p7 =>
        intro hb7 s7 st7
        show wpAny _ _ (execs (.Return (some _) _ :: []) _) _ _ _
        refine' st7.ret (d := .bool true) ?_ (fin_of h mu_r (by rw [if_neg hb3', if_neg hb6', if_pos hb7]))
        walk_at "ev1"
      case q7 =>
        intro hb7 s7 st7
        refine wpAny_execs_nil ?_
        refine' st7.ret (d := .bool false) ?_ (fin_of h mu_r (by rw [if_neg hb3', if_neg hb6', if_neg (by rw [hb7]; decide)]))
        walk_at "ev1"
theorem fn64 (w : World) (x y : Str) (hx : (Txt.lower x).length ≤ 1000) (hy : (Txt.lower y).length ≤ 1000) : Fn PR w (hd.heap_39 w.params) 31 64 [.str x, .str y] (.bool (udm x y)) :=
  Fn.intro2 (n1 := Str.ofString "A") (n2 := Str.ofString "B") (at64 w.params) (bind64 w.params) (fun _ => List.nodup_nil) (by decide) rfl rfl (body64 w x y hx hy)
theorem at144 (P : Params) : FnAt (hd.heap_39 P) 144 (fdOf P 144) (bodyOf P 144) := ⟨⟨_, rfl, rfl⟩, by rfl, rfl, rfl, rfl, rfl, rfl, rfl, rfl⟩
theorem bind144 (P : Params) (v : Value) : bindArgs (fdOf P 144) ⟨[v], []⟩ = pure [(Str.ofString "path", v)] := by kernel_rfl

theorem body144 (w : World) (x : Str) : BodyDoes PR w (hd.heap_39 w.params) 20 144 (fdOf w.params 144) (bodyOf w.params 144) (rho1 (Str.ofString "path") (.str x)) (.str x) := by
  refine ⟨?_⟩
  intro A L mu s₀ s Q E room gl st h
  have ok := st.ok
  show wpAny _ _ (execs (.Assign [.Name _ _] _ _ :: .If _ _ _ _ :: _) _) _ _ _
  refine' st.assign gl (d := .typ "str") ?he1 (.inl rfl) (fun _ _ _ e => by cases e) rfl ?k1
  case he1 => (repeat' walk_at "ev1"); (any_goals exact Bi.type)
  intro s1 st1
  refine' st1.if_ (b := true) ?ht2 ?p2 ?q2
  case ht2 =>
    refine' Tr.val ?n4 ?n5
    case n5 => intro _; rfl
    case n4 => (repeat' walk_at "ev1"); (any_goals exact Bi.issub); (any_goals decide)
  case q2 => intro e; cases e
  case p2 =>
    intro _ s2 st2
    show wpAny _ _ (execs (.Return (some _) _ :: []) _) _ _ _
    refine' st2.ret (d := .str x) ?_ (fin_of h mu_r rfl)
    walk_at "ev1"
theorem fn144 (w : World) (x : Str) : Fn PR w (hd.heap_39 w.params) 21 144 [.str x] (.str x) :=
  Fn.intro1 (n := Str.ofString "path") (at144 w.params) (bind144 w.params) (fun _ => List.nodup_nil) (.inl rfl) (body144 w x)
theorem at158 (P : Params) : FnAt (hd.heap_39 P) 158 (fdOf P 158) (bodyOf P 158) := ⟨⟨_, rfl, rfl⟩, by rfl, rfl, rfl, rfl, rfl, rfl, rfl, rfl⟩
theorem bind158 (P : Params) (v : Value) : bindArgs (fdOf P 158) ⟨[v], []⟩ = pure [(Str.ofString "path", v)] := by kernel_rfl

theorem body158 (w : World) (x : Str) : BodyDoes PR w (hd.heap_39 w.params) 20 158 (fdOf w.params 158) (bodyOf w.params 158) (rho1 (Str.ofString "path") (.str x)) (.str (Str.ofString "/")) := by
  refine ⟨?_⟩
  intro A L mu s₀ s Q E room gl st h
  have ok := st.ok
  show wpAny _ _ (execs (.If _ _ _ _ :: []) _) _ _ _
  refine' st.if_ (b := false) ?ht2 ?p2 ?q2
  case ht2 =>
    refine' Tr.val ?n4 ?n5
    case n5 => intro _; rfl
    case n4 => (repeat' walk_at "ev1"); (any_goals exact Bi.isbytes)
  case p2 => intro e; cases e
  case q2 =>
    intro _ s2 st2
    show wpAny _ _ (execs (.Return (some _) _ :: []) _) _ _ _
    refine' st2.ret (d := .str (Str.ofString "/")) ?_ (fin_of h mu_r rfl)
    walk_at "ev1"
theorem fn158 (w : World) (x : Str) : Fn PR w (hd.heap_39 w.params) 21 158 [.str x] (.str (Str.ofString "/")) :=
  Fn.intro1 (n := Str.ofString "path") (at158 w.params) (bind158 w.params) (fun _ => List.nodup_nil) (.inl rfl) (body158 w x)
theorem at165 (P : Params) : FnAt (hd.heap_39 P) 165 (fdOf P 165) (bodyOf P 165) := ⟨⟨_, rfl, rfl⟩, by rfl, rfl, rfl, rfl, rfl, rfl, rfl, rfl⟩
theorem bind165 (P : Params) (v : Value) : bindArgs (fdOf P 165) ⟨[v], []⟩ = pure [(Str.ofString "p", v)] := by kernel_rfl

def dirF (x : Str) : Str :=
  if ((slS x none (some (Txt.rfind x (Str.ofString "/") + 1))).length != 0 && cl (slS x none (some (Txt.rfind x (Str.ofString "/") + 1))) != cl (Txt.mul (Str.ofString "/") ((slS x none (some (Txt.rfind x (Str.ofString "/") + 1))).length : Int))) = true then
    Txt.rstripChars (slS x none (some (Txt.rfind x (Str.ofString "/") + 1))) (Str.ofString "/")
  else slS x none (some (Txt.rfind x (Str.ofString "/") + 1))
theorem body165 (w : World) (x : Str) (hx : x.length ≤ 100) : BodyDoes PR w (hd.heap_39 w.params) 30 165 (fdOf w.params 165) (bodyOf w.params 165) (rho1 (Str.ofString "p") (.str x)) (.str (dirF x)) := by
  refine ⟨?_⟩
  intro A L mu s₀ s Q E room gl st h
  have ok := st.ok
  show wpAny _ _ (execs (.Assign [.Name _ _] _ _ :: .Assign [.Name _ _] _ _ :: .Assign [.Name _ _] _ _ :: .Assign [.Name _ _] _ _ :: .If _ _ _ _ :: .Return (some _) _ :: []) _) _ _ _
  refine' st.assign gl (d := .str x) ?he1 (.inl rfl) (fun _ _ _ e => by cases e) rfl ?k1
  case he1 => (repeat' walk_at "ev1"); (any_goals exact (fn144 w x).bi (room.le (by omega)))
  intro s1 st1
  refine' st1.assign gl (d := .str (Str.ofString "/")) ?he2 (.inl rfl) (fun _ _ _ e => by cases e) rfl ?k2
  case he2 => (repeat' walk_at "ev1"); (any_goals exact (fn158 w x).bi (room.le (by omega)))
  intro s2 st2
  refine' st2.assign gl (d := .int (Txt.rfind x (Str.ofString "/") + 1)) ?he3 (.inl rfl) (fun _ _ _ e => by cases e) rfl ?k3
  case he3 => (repeat' walk_at "ev1"); (any_goals exact Bi.rfind); (any_goals exact BinR.addI)
  intro s3 st3
  refine' st3.assign gl (d := .str (slS x none (some (Txt.rfind x (Str.ofString "/") + 1)))) ?he4 (.inl rfl) (fun _ _ _ e => by cases e) rfl ?k4
  case he4 => (repeat' walk_at "ev1"); (any_goals exact SliceR.str (by omega))
  intro s4 st4
  have hl := slS_le x none (some (Txt.rfind x (Str.ofString "/") + 1))
  unfold dirF at h
  generalize slS x none (some (Txt.rfind x (Str.ofString "/") + 1)) = hh at *
  have hs1 : (Str.ofString "/").length = 1 := by decide +kernel
  refine' st4.if_ (b := hh.length != 0 && cl hh != cl (Txt.mul (Str.ofString "/") (hh.length : Int))) ?ht5 ?p5 ?q5
  case ht5 =>
    refine' Tr.and2 ?m1 (fun _ => ?m2)
    case m1 =>
      refine' Tr.valS ?m3 (by omega) ?m4
      case m4 => intro _; rfl
      case m3 => walk_at "ev1"
    case m2 => (repeat' walk_at "ev1"); (any_goals exact Bi.lenS (by omega)); (any_goals exact BinR.mulS (by omega) (by omega) (by omega)); (any_goals exact CmpR.neS)
  case p5 =>
    intro hb5 s5 st5
    show wpAny _ _ (execs (.Assign [.Name _ _] _ _ :: []) _) _ _ _
    refine' st5.assign gl (d := .str (Txt.rstripChars hh (Str.ofString "/"))) ?he6 (.inl rfl) (fun _ _ _ e => by cases e) rfl ?k6
    case he6 => (repeat' walk_at "ev1"); (any_goals exact Bi.rstrip (by omega))
    intro s6 st6
    refine wpAny_execs_nil ?_
    refine' st6.ret (d := .str (Txt.rstripChars hh (Str.ofString "/"))) ?_ (fin_of h mu_r (by rw [if_pos hb5]))
    walk_at "ev1"
  case q5 =>
    intro hb5 s5 st5
    refine wpAny_execs_nil ?_
    refine' st5.ret (d := .str hh) ?_ (fin_of h mu_r (by rw [if_neg (by rw [hb5]; decide)]))
    walk_at "ev1"
theorem fn165 (w : World) (x : Str) (hx : x.length ≤ 100) : Fn PR w (hd.heap_39 w.params) 31 165 [.str x] (.str (dirF x)) :=
  Fn.intro1 (n := Str.ofString "p") (at165 w.params) (bind165 w.params) (fun _ => List.nodup_nil) (.inl rfl) (body165 w x hx)
end
end Mine
end PdF3Part
section PdF4Part
open PySem PySem.W PyProof.Rows
namespace Mine
noncomputable section
local macro_rules | `(tactic| walk_at "ev1") => `(tactic| first
  | with_reducible apply Ev.str
  | with_reducible apply Ev.int
  | with_reducible apply Ev.bool
  | ((with_reducible refine' Ev.name ?k1 ?k2 ?k3 ?k4); (case k1 => assumption); (case k2 => rfl); (case k3 => rfl); (case k4 => rfl))
  | ((with_reducible refine' Ev.nameT ?k1 ?k2 ?k3 ?k4 ?k5 ?k6); (case k2 => rfl); (case k3 => rfl); (case k1 => assumption); (case k4 => decide); (case k5 => rfl); (case k6 => rfl))
  | with_reducible refine' Ev.tuple ?_ ?_
  | with_reducible refine' Ev.list ?_ ?_
  | with_reducible refine' Ev.bin ?_ ?_ ?_
  | with_reducible refine' Ev.neg ?_
  | ((with_reducible refine' Ev.cmp ?_ ?_ ?_ ?k4); (case k4 => rfl))
  | ((with_reducible refine' Tr.cmp ?_ ?_ ?_ ?k4); (case k4 => rfl))
  | with_reducible refine' Tr.not ?_
  | with_reducible apply Evs.nil
  | ((with_reducible refine' Evs.cons ?_ ?_ ?k3); (case k3 => rfl))
  | with_reducible apply Part.none
  | with_reducible refine' Part.some ?_
  | with_reducible refine' Ev.slice2 ?_ ?_ ?_ ?_
  | with_reducible refine' Ev.slice3 ?_ ?_ ?_ ?_ ?_ ?_
  | with_reducible refine' Ev.item ?_ ?_ ?_
  | ((with_reducible refine' Ev.methS ?_ ?_ ?k3 ?_ ?k5 ?k6); (case k3 => rfl); (case k5 => rfl); (case k6 => rfl))
  | ((with_reducible refine' Ev.call ?k1 ?k2 ?k3 ?k4 ?k5 ?_ ?k7 ?_ ?k9); (case k2 => rfl); (case k1 => assumption); (case k3 => rfl); (case k4 => rfl); (case k5 => rfl); (case k7 => rfl); (case k9 => rfl))
  | ((with_reducible refine' Ev.callB ?k1 ?k2 ?k3 ?k4 ?k5 ?_ ?k7 ?_ ?k9); (case k2 => rfl); (case k3 => rfl); (case k1 => assumption); (case k4 => decide); (case k5 => rfl); (case k7 => rfl); (case k9 => rfl))
  | ((with_reducible refine' Ev.callT ?k1 ?k2 ?k3 ?k4 ?k5 ?_ ?k7 ?_ ?k9); (case k2 => rfl); (case k3 => rfl); (case k1 => assumption); (case k4 => decide); (case k5 => rfl); (case k7 => rfl); (case k9 => rfl)))
local macro_rules | `(tactic| walk_at "srch") => `(tactic| ((refine' Tr.search (by assumption) ?g1 ?g2 ?g3 ?g4 ?ha ?hz ?g7 ?g8 ?g9 ?g10); (case g1 => rfl); (case g2 => rfl); (case g3 => rfl); (case g4 => rfl); (case g7 => rfl); (case g8 => rfl); (case g9 => rfl); (case g10 => (intro _; rfl)); (case ha => walk_at "ev1"); (case hz => omega)))
theorem at191 (P : Params) : FnAt (hd.heap_39 P) 191 (fdOf P 191) (bodyOf P 191) := ⟨⟨_, rfl, rfl⟩, by rfl, rfl, rfl, rfl, rfl, rfl, rfl, rfl⟩
theorem bind191 (P : Params) (v : Value) : bindArgs (fdOf P 191) ⟨[v], []⟩ = pure [(Str.ofString "host", v)] := by kernel_rfl

def asPath (x : Str) : Str := Str.ofString "/" ++ Txt.join (Str.ofString "/") (Txt.split (Txt.lower x) (Str.ofString ".")).reverse
theorem Bi.joinL {c : Cx} {x : Str} {ds : List D} {xs : List Str} (e : ds = xs.map D.str) (h : JoinOk x xs = true) : Bi c (.builtin "str.join") [.str x, .list ds] (.str (Txt.join x xs)) := by
  subst e; exact Bi.join h
theorem split_len (x : Str) (c : Nat) (h : x.length ≤ 1000) : (Builtin.Str.partsBetween x (Builtin.Str.occurrences x (mk [c]) 0 x.length (x.length + 1)) (mk [c]).length).length ≤ 100000 := by
  rw [StrLaws.partsBetween_eq]
  have h1 := StrLaws.occ_length_le x (mk [c]) 0 x.length (x.length + 1)
  have h2 : ∀ (w a : Nat) (cuts : List Nat), (StrLaws.partsFrom x w a cuts).length = cuts.length + 1 := by
    intro w a cuts
    induction cuts generalizing a with
    | nil => rfl
    | cons b r ih => simp [StrLaws.partsFrom, ih]
  rw [h2]; omega
theorem split_len2 (x : Str) (c : Nat) (h : x.length ≤ 1000) : (Txt.split x (mk [c])).length ≤ 100000 := by
  have := split_len x c h
  unfold Txt.split
  split
  · simp
  · split
    · simp
    · exact this
theorem ofs_dot : Str.ofString "." = mk [46] := by decide +kernel
theorem ofs_slash : Str.ofString "/" = mk [47] := by decide +kernel
theorem body191 (w : World) (x : Str) (hx : (Txt.lower x).length ≤ 1000) (hj : JoinOk (Str.ofString "/") (Txt.split (Txt.lower x) (Str.ofString ".")).reverse = true) (hl : (Txt.join (Str.ofString "/") (Txt.split (Txt.lower x) (Str.ofString ".")).reverse).length ≤ 1000) :
    BodyDoes PR w (hd.heap_39 w.params) 20 191 (fdOf w.params 191) (bodyOf w.params 191) (rho1 (Str.ofString "host") (.str x)) (.str (asPath x)) := by
  refine ⟨?_⟩
  intro A L mu s₀ s Q E room gl st h
  have ok := st.ok
  have hsl := split_len (Txt.lower x) 46 hx
  have hs1 : (Str.ofString "/").length = 1 := by decide +kernel
  show wpAny _ _ (execs (.Return (some _) _ :: []) _) _ _ _
  refine' st.ret (d := .str (asPath x)) ?he ?hf
  case hf => exact fin_of h mu_r rfl
  refine' Ev.eq ?h1 ?h2
  case h2 => exact rfl
  repeat' walk_at "ev1"
  any_goals exact Bi.lower (by omega)
  any_goals exact Bi.split (by omega) (by decide +kernel) (by rw [ofs_dot]; exact hsl)
  any_goals exact Bi.joinL (xs := (Txt.split (Txt.lower x) (Str.ofString ".")).reverse) (by rw [pickD_rev, List.map_reverse]) hj
  any_goals exact BinR.addS (by rw [hs1]; omega)
  any_goals exact (by decide : (-1 : Int) ≠ 0)
  any_goals exact (by rw [List.length_map, ofs_dot]; exact split_len2 _ _ hx)
theorem fn191 (w : World) (x : Str) (hx : (Txt.lower x).length ≤ 1000) (hj : JoinOk (Str.ofString "/") (Txt.split (Txt.lower x) (Str.ofString ".")).reverse = true) (hl : (Txt.join (Str.ofString "/") (Txt.split (Txt.lower x) (Str.ofString ".")).reverse).length ≤ 1000) :
    Fn PR w (hd.heap_39 w.params) 21 191 [.str x] (.str (asPath x)) := by
  have hb := body191 w x hx hj hl
  generalize asPath x = y at hb ⊢
  exact Fn.intro1 (n := Str.ofString "host") (at191 w.params) (bind191 w.params) (fun _ => List.nodup_nil) (.inl rfl) hb
end
end Mine
end PdF4Part
section PdJPart
open PySem PySem.W PyProof.Rows
namespace Mine
noncomputable section
local macro_rules | `(tactic| walk_at "ev1") => `(tactic| first
  | with_reducible apply Ev.str
  | with_reducible apply Ev.int
  | with_reducible apply Ev.bool
  | ((with_reducible refine' Ev.name ?k1 ?k2 ?k3 ?k4); (case k1 => assumption); (case k2 => rfl); (case k3 => rfl); (case k4 => rfl))
  | ((with_reducible refine' Ev.nameT ?k1 ?k2 ?k3 ?k4 ?k5 ?k6); (case k2 => rfl); (case k3 => rfl); (case k1 => assumption); (case k4 => decide); (case k5 => rfl); (case k6 => rfl))
  | with_reducible refine' Ev.tuple ?_ ?_
  | with_reducible refine' Ev.list ?_ ?_
  | with_reducible refine' Ev.bin ?_ ?_ ?_
  | with_reducible refine' Ev.neg ?_
  | ((with_reducible refine' Ev.cmp ?_ ?_ ?_ ?k4); (case k4 => rfl))
  | ((with_reducible refine' Tr.cmp ?_ ?_ ?_ ?k4); (case k4 => rfl))
  | with_reducible refine' Tr.not ?_
  | with_reducible apply Evs.nil
  | ((with_reducible refine' Evs.cons ?_ ?_ ?k3); (case k3 => rfl))
  | with_reducible apply Part.none
  | with_reducible refine' Part.some ?_
  | with_reducible refine' Ev.slice2 ?_ ?_ ?_ ?_
  | with_reducible refine' Ev.slice3 ?_ ?_ ?_ ?_ ?_ ?_
  | with_reducible refine' Ev.item ?_ ?_ ?_
  | ((with_reducible refine' Ev.methS ?_ ?_ ?k3 ?_ ?k5 ?k6); (case k3 => rfl); (case k5 => rfl); (case k6 => rfl))
  | ((with_reducible refine' Ev.call ?k1 ?k2 ?k3 ?k4 ?k5 ?_ ?k7 ?_ ?k9); (case k2 => rfl); (case k1 => assumption); (case k3 => rfl); (case k4 => rfl); (case k5 => rfl); (case k7 => rfl); (case k9 => rfl))
  | ((with_reducible refine' Ev.callB ?k1 ?k2 ?k3 ?k4 ?k5 ?_ ?k7 ?_ ?k9); (case k2 => rfl); (case k3 => rfl); (case k1 => assumption); (case k4 => decide); (case k5 => rfl); (case k7 => rfl); (case k9 => rfl))
  | ((with_reducible refine' Ev.callT ?k1 ?k2 ?k3 ?k4 ?k5 ?_ ?k7 ?_ ?k9); (case k2 => rfl); (case k3 => rfl); (case k1 => assumption); (case k4 => decide); (case k5 => rfl); (case k7 => rfl); (case k9 => rfl)))
local macro_rules | `(tactic| walk_at "srch") => `(tactic| ((refine' Tr.search (by assumption) ?g1 ?g2 ?g3 ?g4 ?ha ?hz ?g7 ?g8 ?g9 ?g10); (case g1 => rfl); (case g2 => rfl); (case g3 => rfl); (case g4 => rfl); (case g7 => rfl); (case g8 => rfl); (case g9 => rfl); (case g10 => (intro _; rfl)); (case ha => walk_at "ev1"); (case hz => omega)))

theorem at177 (P : Params) : FnAt (hd.heap_39 P) 177 (fdOf P 177) (bodyOf P 177) := ⟨⟨_, rfl, rfl⟩, by rfl, rfl, rfl, rfl, rfl, rfl, rfl, rfl⟩
theorem bind177 (P : Params) (v v' : Value) : bindArgs (fdOf P 177) ⟨[v, v'], []⟩ = pure [(Str.ofString "n", v), (Str.ofString "least", v')] := by kernel_rfl
def wordsL : List Str := [Str.ofString "com", Str.ofString "local7", Str.ofString "B", Str.ofString "local", Str.ofString "x-local", Str.ofString "LOCAL", Str.ofString "b", Str.ofString "77"]
def word (n : Nat) : Str := wordsL.getD (n % 8) (Str.ofString "")
def labF : Nat → Nat → Nat → List Str
  | 0, _, _ => []
  | f + 1, n, l => if 0 < n ∨ 0 < l then word n :: labF f (n / 8) (l - 1) else []
/-- the same frame, its names told otherwise -/
theorem St.rho {c : Cx} {s₀ s : Shared} (st : St c s₀ s) (r : Str → Option D) (h : ∀ y, r y = c.rho y) : St { c with rho := r } s₀ s := by
  have : r = c.rho := funext h
  subst this; exact st

theorem labF_fuel : ∀ (f g n l : Nat), n + l ≤ f → n + l ≤ g → labF f n l = labF g n l := by
  intro f
  induction f with
  | zero =>
    intro g n l h _
    have h1 : n = 0 := by omega
    have h2 : l = 0 := by omega
    subst h1; subst h2
    cases g <;> rfl
  | succ f ih =>
    intro g n l h h'
    by_cases hc : 0 < n ∨ 0 < l
    · obtain ⟨g, rfl⟩ : ∃ g', g = g' + 1 := ⟨g - 1, by omega⟩
      show (if 0 < n ∨ 0 < l then word n :: labF f (n / 8) (l - 1) else []) = (if 0 < n ∨ 0 < l then word n :: labF g (n / 8) (l - 1) else [])
      rw [if_pos hc, if_pos hc, ih g _ _ (by omega) (by omega)]
    · have h1 : n = 0 := by omega
      have h2 : l = 0 := by omega
      subst h1; subst h2
      cases g <;> rfl
def labs (n l : Nat) : List Str := labF (n + l) n l
theorem labs_more {n l : Nat} (h : 0 < n ∨ 0 < l) : labs n l = word n :: labs (n / 8) (l - 1) := by
  unfold labs
  obtain ⟨g, hg⟩ : ∃ g, n + l = g + 1 := ⟨n + l - 1, by omega⟩
  rw [hg]
  show (if 0 < n ∨ 0 < l then word n :: labF g (n / 8) (l - 1) else []) = _
  rw [if_pos h, labF_fuel g (n / 8 + (l - 1)) _ _ (by omega) (by omega)]
theorem labs_end {n l : Nat} (h : ¬ (0 < n ∨ 0 < l)) : labs n l = [] := by
  have h1 : n = 0 := by omega
  have h2 : l = 0 := by omega
  subst h1; subst h2; rfl

theorem word_get (n : Nat) : (wordsL.map D.str)[((n : Int).fmod 8).toNat]? = some (.str (word n)) := by
  have e : ((n : Int).fmod 8).toNat = n % 8 := by
    rw [Int.fmod_eq_emod_of_nonneg _ (by omega)]; omega
  rw [e]
  unfold word
  have h8 : n % 8 < 8 := Nat.mod_lt _ (by omega)
  have hl : n % 8 < wordsL.length := h8
  rw [List.getElem?_map, List.getElem?_eq_getElem hl, List.getD_eq_getElem?_getD, List.getElem?_eq_getElem hl]
  rfl
abbrev c177 (w : World) (A : Around) (L : Addr) (mu : List Addr) (n l : Nat) : Cx :=
  (cxOf PR w A (hd.heap_39 w.params) (fdOf w.params 177) L 177 mu (rho2 (Str.ofString "n") (.int n) (Str.ofString "least") (.int l))).set (Str.ofString "words") (.list (wordsL.map D.str))
abbrev f177 (w : World) (A : Around) (L : Addr) (mu : List Addr) (n l : Nat) (r : Addr) (i : Nat × List Str) : Cx :=
  ((c177 w A L mu n l).own (Str.ofString "row") r (i.2.map D.str)).set (Str.ofString "n") (.int i.1)
theorem body177 (w : World) (n l : Nat) (hn : n < 50000) (hl : l ≤ 100) :
    BodyDoes PR w (hd.heap_39 w.params) 20 177 (fdOf w.params 177) (bodyOf w.params 177) (rho2 (Str.ofString "n") (.int n) (Str.ofString "least") (.int l)) (.list ((labs n l).map D.str)) := by
  refine ⟨?_⟩
  intro A L mu s₀ s Q E room gl st h
  have ok := st.ok
  show wpAny _ _ (execs (.Assign [.Name _ _] (.List _ _) _ :: .Assign [.Name _ _] (.List [] _) _ :: .While _ _ [] _ :: .Return (some _) _ :: []) _) _ _ _
  refine' st.assign gl (d := .list (wordsL.map D.str)) ?he1 (.inl rfl) (fun _ _ _ e => by cases e) rfl ?k1
  case he1 =>
    refine' Ev.eq ?l0 ?l3
    case l0 =>
      refine' Ev.list ?l1 ?l2
      case l1 => repeat' walk_at "ev1"
      case l2 => decide
    case l3 => exact rfl
  intro s1 st1
  refine' st1.assignOwn gl (ds := []) Evs.nil (by decide) rfl rfl ?k2
  intro r s2 hr st2
  have hwl : (wordsL.map D.str).length ≤ 100000 := by decide
  have st3 : St (f177 w A L mu n l r (n, [])) s₀ s2 := st2.rho _ (by
    intro y
    show (if y = Str.ofString "n" then some (D.int n) else _) = _
    by_cases hy : y = Str.ofString "n"
    · subst hy; rfl
    · rw [if_neg hy])
  refine' St.while_ (c := c177 w A L mu n l) (f177 w A L mu n l r) (fun i => i.1 + (l - i.2.length)) (fun i => i.2 ++ labs i.1 (l - i.2.length) = labs n l ∧ i.2.length + i.1 + (l - i.2.length) ≤ n + l + 1) (n, []) (fun i => ⟨rfl, rfl, rfl⟩) st3 ?i0 ?turn
  case i0 => exact ⟨by simp, by simp⟩
  case turn =>
    rintro ⟨a, row⟩ ⟨hinv, hbd⟩
    dsimp only at hinv hbd
    have ok2 : EnvOk (f177 w A L mu n l r (a, row)).env := ok
    refine ⟨decide ((a : Int) > 0) || decide ((row.length : Int) < (l : Int)), ?_, ?_, ?_⟩
    · refine' Tr.or2 ?t1 (fun _ => ?t2)
      case t1 => (repeat' walk_at "ev1"); (any_goals exact CmpR.gtI)
      case t2 =>
        refine' Tr.cmp ?t3 ?t4 ?t5 ?t6
        case t3 => exact Ev.lenOwn (ds := row.map D.str) ok2 rfl rfl rfl (by decide) rfl rfl rfl rfl (by rw [List.length_map]; omega)
        case t4 => walk_at "ev1"
        case t5 => rw [List.length_map]; exact CmpR.ltI
        case t6 => rfl
    · intro hb s3 E' st4
      have hpos : 0 < a ∨ 0 < l - row.length := by
        simp at hb; omega
      refine' st4.append gl (ds := row.map D.str) (d := .str (word a)) rfl rfl rfl ?u1 (by rw [List.length_map]; omega) rfl rfl rfl rfl ?u2
      case u1 => (repeat' walk_at "ev1"); (any_goals exact BinR.modI (by decide)); (any_goals exact ItemR.list (by rw [Int.fmod_eq_emod_of_nonneg _ (by omega)]; omega) (word_get a) hwl)
      intro s4 st5
      refine' st5.assign gl (d := .int ((a / 8 : Nat) : Int)) ?u3 (.inl rfl) (fun _ _ _ e => by cases e; decide) rfl ?u4
      case u3 =>
        refine' Ev.eq ?u5 ?u6
        case u5 => (repeat' walk_at "ev1"); (any_goals exact BinR.divI (by decide) (PyProof.noPylong_small (by decide)))
        case u6 =>
          rw [Int.fdiv_eq_ediv_of_nonneg _ (by omega)]
          rfl
      intro s5 st6
      refine wpAny_execs_nil ⟨(a / 8, row ++ [word a]), ?_, ⟨?_, ?_⟩, ?_⟩
      · dsimp only; rw [List.length_append, List.length_singleton]; omega
      · dsimp only
        rw [List.append_assoc, List.length_append, List.length_singleton, ← hinv, labs_more hpos]
        show row ++ word a :: labs (a / 8) (l - (row.length + 1)) = _
        rw [show l - (row.length + 1) = l - row.length - 1 by omega]
      · dsimp only; rw [List.length_append, List.length_singleton]; omega
      · have e : row.map D.str ++ [D.str (word a)] = (row ++ [word a]).map D.str := by simp
        rw [e] at st6
        refine st6.rho _ fun y => ?_
        show (if y = Str.ofString "n" then some (D.int ((a / 8 : Nat) : Int)) else _) = (if y = Str.ofString "n" then some (D.int ((a / 8 : Nat) : Int)) else (if y = Str.ofString "n" then some (D.int (a : Int)) else _))
        by_cases hy : y = Str.ofString "n"
        · rw [if_pos hy, if_pos hy]
        · rw [if_neg hy, if_neg hy, if_neg hy]
    · intro hb s3 st4
      have hz : ¬ (0 < a ∨ 0 < l - row.length) := by
        simp at hb; omega
      rw [labs_end hz, List.append_nil] at hinv

      have st5 : St (((c177 w A L mu n l).set (Str.ofString "n") (.int a)).own (Str.ofString "row") r (row.map D.str)) s₀ s3 := st4.rho _ (by
        intro y
        show (if y = Str.ofString "row" then none else (if y = Str.ofString "n" then some (D.int (a : Int)) else _)) = (if y = Str.ofString "n" then some (D.int (a : Int)) else (if y = Str.ofString "row" then none else _))
        by_cases hy : y = Str.ofString "n"
        · subst hy; rfl
        · rw [if_neg hy, if_neg hy])
      have st6 := st5.freeze st1.lmu st1.cmu hr rfl
      refine' st6.ret (d := .list (row.map D.str)) ?v1 ?v2
      case v2 => exact fin_of h mu_r (by rw [hinv])
      case v1 => walk_at "ev1"
theorem fn177 (w : World) (n l : Nat) (hn : n < 50000) (hl : l ≤ 100) : Fn PR w (hd.heap_39 w.params) 21 177 [.int n, .int l] (.list ((labs n l).map D.str)) :=
  Fn.intro2 (n1 := Str.ofString "n") (n2 := Str.ofString "least") (at177 w.params) (bind177 w.params) (fun _ => List.nodup_nil) (by decide) rfl rfl (body177 w n l hn hl)
end
end Mine
end PdJPart
section PdPPart
open PySem PySem.W PyProof.Rows
namespace Mine
noncomputable section
local macro_rules | `(tactic| walk_at "ev1") => `(tactic| first
  | with_reducible apply Ev.str
  | with_reducible apply Ev.int
  | with_reducible apply Ev.bool
  | ((with_reducible refine' Ev.name ?k1 ?k2 ?k3 ?k4); (case k1 => assumption); (case k2 => rfl); (case k3 => rfl); (case k4 => rfl))
  | ((with_reducible refine' Ev.nameT ?k1 ?k2 ?k3 ?k4 ?k5 ?k6); (case k2 => rfl); (case k3 => rfl); (case k1 => assumption); (case k4 => decide); (case k5 => rfl); (case k6 => rfl))
  | with_reducible refine' Ev.tuple ?_ ?_
  | with_reducible refine' Ev.list ?_ ?_
  | with_reducible refine' Ev.bin ?_ ?_ ?_
  | with_reducible refine' Ev.neg ?_
  | ((with_reducible refine' Ev.cmp ?_ ?_ ?_ ?k4); (case k4 => rfl))
  | ((with_reducible refine' Tr.cmp ?_ ?_ ?_ ?k4); (case k4 => rfl))
  | with_reducible refine' Tr.not ?_
  | with_reducible apply Evs.nil
  | ((with_reducible refine' Evs.cons ?_ ?_ ?k3); (case k3 => rfl))
  | with_reducible apply Part.none
  | with_reducible refine' Part.some ?_
  | with_reducible refine' Ev.slice2 ?_ ?_ ?_ ?_
  | with_reducible refine' Ev.slice3 ?_ ?_ ?_ ?_ ?_ ?_
  | with_reducible refine' Ev.item ?_ ?_ ?_
  | ((with_reducible refine' Ev.methS ?_ ?_ ?k3 ?_ ?k5 ?k6); (case k3 => rfl); (case k5 => rfl); (case k6 => rfl))
  | ((with_reducible refine' Ev.call ?k1 ?k2 ?k3 ?k4 ?k5 ?_ ?k7 ?_ ?k9); (case k2 => rfl); (case k1 => assumption); (case k3 => rfl); (case k4 => rfl); (case k5 => rfl); (case k7 => rfl); (case k9 => rfl))
  | ((with_reducible refine' Ev.callB ?k1 ?k2 ?k3 ?k4 ?k5 ?_ ?k7 ?_ ?k9); (case k2 => rfl); (case k3 => rfl); (case k1 => assumption); (case k4 => decide); (case k5 => rfl); (case k7 => rfl); (case k9 => rfl))
  | ((with_reducible refine' Ev.callT ?k1 ?k2 ?k3 ?k4 ?k5 ?_ ?k7 ?_ ?k9); (case k2 => rfl); (case k3 => rfl); (case k1 => assumption); (case k4 => decide); (case k5 => rfl); (case k7 => rfl); (case k9 => rfl)))
local macro_rules | `(tactic| walk_at "srch") => `(tactic| ((refine' Tr.search (by assumption) ?g1 ?g2 ?g3 ?g4 ?ha ?hz ?g7 ?g8 ?g9 ?g10); (case g1 => rfl); (case g2 => rfl); (case g3 => rfl); (case g4 => rfl); (case g7 => rfl); (case g8 => rfl); (case g9 => rfl); (case g10 => (intro _; rfl)); (case ha => walk_at "ev1"); (case hz => omega)))

theorem at184 (P : Params) : FnAt (hd.heap_39 P) 184 (fdOf P 184) (bodyOf P 184) := ⟨⟨_, rfl, rfl⟩, by rfl, rfl, rfl, rfl, rfl, rfl, rfl, rfl⟩
theorem bind184 (P : Params) (v : Value) : bindArgs (fdOf P 184) ⟨[v], []⟩ = pure [(Str.ofString "script", v)] := by kernel_rfl
/-- the numbers that the script gives -/
def numsOf (ns : List Int) : List Int := if ns.length = 0 then [0] else ns.take 5
def firstOf (ns : List Int) : Nat := (((numsOf ns).headD 0).natAbs) % 32768
def row0 (f : Nat) : List Str := labs f (5 - f % 5)
def rowN (r0 : List Str) (x : Int) : List Str := r0.take ((x.natAbs % 2560) % 5) ++ labs ((x.natAbs % 2560) / 5) 1
def rowsOf (ns : List Int) : List (List Str) := row0 (firstOf ns) :: ((numsOf ns).drop 1).map (rowN (row0 (firstOf ns)))
abbrev dRow (r : List Str) : D := .list (r.map D.str)
theorem labF_len : ∀ (f n l : Nat), (labF f n l).length ≤ f := by
  intro f
  induction f with
  | zero => intro n l; exact Nat.le_refl _
  | succ f ih =>
    intro n l
    show (if 0 < n ∨ 0 < l then word n :: labF f (n / 8) (l - 1) else []).length ≤ _
    split
    · simp; exact ih _ _
    · simp
theorem labs_len (n l : Nat) : (labs n l).length ≤ n + l := labF_len _ _ _
theorem natAbs_mod (x : Int) (k : Nat) (hk : 0 < k) : ((x.natAbs : Int)).fmod (k : Int) = ((x.natAbs % k : Nat) : Int) := by
  rw [Int.fmod_eq_emod_of_nonneg _ (by omega)]; rfl
theorem biLabs {c : Cx} {n l : Nat} {a b : Int} (w : World) (hw : c.prog = PR ∧ c.w = w ∧ c.K = hd.heap_39 w.params) (room : Room c.A 21) (ha : a = (n : Int)) (hb : b = (l : Int)) (hn : n < 50000) (hl : l ≤ 100) : Bi c (.ref 177) [.int a, .int b] (dRow (labs n l)) := by
  subst ha; subst hb
  have f := fn177 w n l hn hl
  obtain ⟨prog, w', A, K, env, mu, rho, ow, pin, dat⟩ := c
  obtain ⟨h1, h2, h3⟩ := hw
  dsimp only at h1 h2 h3
  subst h1; subst h2; subst h3
  exact Fn.bi f room
abbrev c184 (w : World) (A : Around) (L : Addr) (mu : List Addr) (ns : List Int) (f : Nat) : Cx :=
  ((cxOf PR w A (hd.heap_39 w.params) (fdOf w.params 184) L 184 mu (rho1 (Str.ofString "script") (.list (ns.map D.int)))).set (Str.ofString "numbers") (.list ((numsOf ns).map D.int))).set (Str.ofString "first") (.int (f : Int))
theorem body184 (w : World) (ns : List Int) (hns : ns.length ≤ 63) :
    BodyDoes PR w (hd.heap_39 w.params) 30 184 (fdOf w.params 184) (bodyOf w.params 184) (rho1 (Str.ofString "script") (.list (ns.map D.int))) (.list ((rowsOf ns).map dRow)) := by
  refine ⟨?_⟩
  intro A L mu s₀ s Q E room gl st h
  have ok := st.ok
  show wpAny _ _ (execs (.Assign [.Name _ _] _ _ :: .Assign [.Name _ _] _ _ :: .Assign [.Name _ _] (.List _ _) _ :: .For (.Name _ _) _ _ [] _ :: .Return (some _) _ :: []) _) _ _ _
  refine' st.assign gl (d := .list ((numsOf ns).map D.int)) ?he1 (.inl rfl) (fun _ _ _ e => by cases e) rfl ?k1
  case he1 =>
    refine' Ev.ifexp (b := (ns.map D.int).length != 0) ?a1 ?a2 ?a3
    case a1 =>
      refine' Tr.valL ?b1 (by rw [List.length_map]; omega) ?b2
      case b2 => intro _; rfl
      case b1 => walk_at "ev1"
    case a2 =>
      intro hb
      have hb' : ns.length ≠ 0 := by simpa using hb
      refine' Ev.eq ?c1 ?c2
      case c1 => (repeat' walk_at "ev1"); (any_goals exact SliceR.list (by decide) (by rw [List.length_map]; omega))
      case c2 => unfold numsOf; rw [if_neg hb', show (some (5 : Int)) = some ((5 : Nat) : Int) from rfl, pickD_to, List.map_take]
    case a3 =>
      intro hb
      have hb' : ns.length = 0 := by simpa using hb
      refine' Ev.eq ?d1 ?d2
      case d1 =>
        refine' Ev.list ?d3 ?d4
        case d3 => repeat' walk_at "ev1"
        case d4 => decide
      case d2 => unfold numsOf; rw [if_pos hb']; rfl
  intro s1 st1
  have hn5 : (numsOf ns).length ≤ 5 := by unfold numsOf; split <;> simp; omega
  have hn0 : (numsOf ns)[0]? = some ((numsOf ns).headD 0) := by
    unfold numsOf
    split
    · rfl
    · cases ns with
      | nil => simp_all
      | cons a r => rfl
  have hnl : ((numsOf ns).map D.int).length ≤ 100000 := by rw [List.length_map]; omega
  have hf : firstOf ns < 32768 := Nat.mod_lt _ (by omega)
  refine' st1.assign gl (d := .int (firstOf ns : Int)) ?he2 (.inl rfl) (fun _ _ _ e => by cases e) rfl ?k2
  case he2 =>
    refine' Ev.eq ?e1 ?e2
    case e1 =>
      (repeat' walk_at "ev1")
      any_goals exact ItemR.list (d := .int ((numsOf ns).headD 0)) (by decide) (by rw [List.getElem?_map]; rw [show ((0 : Int).toNat) = 0 from rfl, hn0]; rfl) hnl
      any_goals exact Bi.abs
      any_goals exact BinR.modI (by decide)
    case e2 => exact congrArg D.int (natAbs_mod _ 32768 (by omega))
  intro s2 st2
  generalize hff : firstOf ns = f at st2 hf
  have hrl := labs_len f (5 - f % 5)
  refine' st2.assignOwn gl (ds := [dRow (row0 f)]) ?he3 (by show 1 ≤ 100000; omega) rfl rfl ?k3
  case he3 =>
    refine' Evs.one ?g1 rfl
    (repeat' walk_at "ev1")
    any_goals exact BinR.modI (by decide)
    any_goals exact BinR.subI
    any_goals exact biLabs w ⟨rfl, rfl, rfl⟩ (room.le (by omega)) rfl (by rw [Int.fmod_eq_emod_of_nonneg _ (by omega)]; omega) (by omega) (by omega)
  intro r s3 hr st3
  have hrow0 : (row0 f).length ≤ 40000 := by unfold row0; omega
  refine' St.for_ (c := (c184 w A L mu ns f).own (Str.ofString "rows") r [dRow (row0 f)]) (src := ((numsOf ns).drop 1).map D.int) (d0 := .list (((numsOf ns).drop 1).map D.int)) (fun _ => ((c184 w A L mu ns f).own (Str.ofString "rows") r [dRow (row0 f)]).rho) (fun i => some (Str.ofString "rows", r, (row0 f :: (((numsOf ns).drop 1).take i).map (rowN (row0 f))).map dRow)) (fun _ => True) (fun _ => False) (fun _ _ => none)
    st3 gl rfl (fun _ _ q => q) ?hi (Itr.list room.hd) rfl (fun _ => rfl) ?hof (fun _ _ q => q) rfl trivial ?turn (fun _ _ q => q.elim) ?hr
  case hof =>
    intro i y r' ds e
    cases e
    exact ⟨by decide, _, rfl⟩
  case hi =>
    refine' Ev.eq ?i1 ?i2
    case i1 => (repeat' walk_at "ev1"); (any_goals exact SliceR.list (by decide) hnl)
    case i2 => rw [show (some (1 : Int)) = some ((1 : Nat) : Int) from rfl, pickD_from, List.map_drop]
  case hr =>
    intro s4 _ st4
    have st5 : St ((c184 w A L mu ns f).own (Str.ofString "rows") r ((rowsOf ns).map dRow)) s₀ s4 := by
      have e : (row0 f :: (((numsOf ns).drop 1).take (((numsOf ns).drop 1).map D.int).length).map (rowN (row0 f))) = rowsOf ns := by
        unfold rowsOf; rw [hff, List.length_map, List.take_length]
      rw [e] at st4
      exact st4
    have st6 := st5.freeze st2.lmu st2.cmu hr rfl
    refine' st6.ret (d := .list ((rowsOf ns).map dRow)) ?v1 (fin_of h mu_r rfl)
    walk_at "ev1"
  case turn =>
    intro wr pins dt i d s4 E' hd _ st4
    have ok4 := st4.ok
    have hd' : ∃ x, ((numsOf ns).drop 1)[i]? = some x ∧ d = .int x := by
      rw [List.getElem?_map] at hd
      cases hx : ((numsOf ns).drop 1)[i]? with
      | none => rw [hx] at hd; cases hd
      | some x => rw [hx] at hd; cases hd; exact ⟨x, rfl, rfl⟩
    obtain ⟨x, hx, rfl⟩ := hd'
    have hm : x.natAbs % 2560 < 2560 := Nat.mod_lt _ (by omega)
    show wpAny _ _ (execs (.Assign [.Name _ _] _ _ :: .Expr _ _ :: []) _) _ _ _
    refine' st4.assign gl (d := .int ((x.natAbs % 2560 : Nat) : Int)) ?m1 (.inl rfl) (fun y r' ds e => by cases e; decide) rfl ?m2
    case m1 =>
      refine' Ev.eq ?n1 ?n2
      case n1 => (repeat' walk_at "ev1"); (any_goals exact Bi.abs); (any_goals exact BinR.modI (by decide))
      case n2 => exact congrArg D.int (natAbs_mod _ 2560 (by omega))
    intro s5 st5
    have ok5 := st5.ok
    have hi5 : i < 5 := by
      have := (List.getElem?_eq_some_iff.mp hx).1
      rw [List.length_drop] at this; omega
    have hdl : ((row0 f :: (((numsOf ns).drop 1).take i).map (rowN (row0 f))).map dRow).length ≤ 100000 := by
      simp only [List.length_map, List.length_cons, List.length_take]; omega
    have hlab := labs_len ((x.natAbs % 2560) / 5) 1
    refine' st5.append gl (d := dRow (rowN (row0 f) x)) rfl rfl rfl ?u1 hdl rfl rfl rfl rfl ?u2
    case u1 =>
      refine' Ev.eq ?w1 ?w2
      case w1 =>
        refine' Ev.bin ?x1 ?x2 ?x3
        case x1 =>
          refine' Ev.slice2 ?x4 ?x5 ?x6 ?x7
          case x4 => exact Ev.itemOwn (d := dRow (row0 f)) ok5 rfl rfl rfl Ev.int (by decide) rfl hdl
          case x5 => exact Part.none
          case x6 => (repeat' walk_at "ev1"); (any_goals exact BinR.modI (by decide))
          case x7 => exact SliceR.list (by decide) (by rw [List.length_map]; omega)
        case x2 =>
          (repeat' walk_at "ev1")
          any_goals exact BinR.divI (by decide) (PyProof.noPylong_small (by decide))
          any_goals exact biLabs (n := (x.natAbs % 2560) / 5) (l := 1) w ⟨rfl, rfl, rfl⟩ (room.le (by omega)) (by rw [Int.fdiv_eq_ediv_of_nonneg _ (by omega)]; rfl) rfl (by omega) (by omega)
        case x3 =>
          refine BinR.addL ?_
          rw [Int.fmod_eq_emod_of_nonneg _ (by omega)]
          rw [show (((x.natAbs % 2560 : Nat) : Int) % 5) = (((x.natAbs % 2560) % 5 : Nat) : Int) from rfl, pickD_to, List.length_map, List.length_take, List.length_map]
          omega
      case w2 =>
        rw [Int.fmod_eq_emod_of_nonneg _ (by omega)]
        rw [show (((x.natAbs % 2560 : Nat) : Int) % 5) = (((x.natAbs % 2560) % 5 : Nat) : Int) from rfl, pickD_to, ← List.map_take, ← List.map_append]
        rfl
    intro s6 st6
    refine wpAny_execs_nil ⟨trivial, ?_⟩
    have e : (row0 f :: (((numsOf ns).drop 1).take i).map (rowN (row0 f))).map dRow ++ [dRow (rowN (row0 f) x)] = (row0 f :: (((numsOf ns).drop 1).take (i + 1)).map (rowN (row0 f))).map dRow := by
      rw [List.take_add_one, hx]; simp
    rw [e] at st6
    refine St.weak st6 _ fun y d hy => ?_
    show (if y = Str.ofString "n" then some (D.int ((x.natAbs % 2560 : Nat) : Int)) else (if y = Str.ofString "x" then some (D.int x) else _)) = some d
    by_cases h1 : y = Str.ofString "n"
    · subst h1; cases hy
    · by_cases h2 : y = Str.ofString "x"
      · subst h2; cases hy
      · rw [if_neg h1, if_neg h2]; exact hy
theorem fn184 (w : World) (ns : List Int) (hns : ns.length ≤ 63) : Fn PR w (hd.heap_39 w.params) 31 184 [.list (ns.map D.int)] (.list ((rowsOf ns).map dRow)) :=
  Fn.intro1 (n := Str.ofString "script") (at184 w.params) (bind184 w.params) (fun _ => List.nodup_nil) (.inl rfl) (body184 w ns hns)
end
end Mine
end PdPPart
section PdWPart
open PySem PySem.W PyProof.Rows
namespace Mine
noncomputable section
local macro_rules | `(tactic| walk_at "ev1") => `(tactic| first
  | with_reducible apply Ev.str
  | with_reducible apply Ev.int
  | with_reducible apply Ev.bool
  | ((with_reducible refine' Ev.name ?k1 ?k2 ?k3 ?k4); (case k1 => first | assumption | exact envC (by assumption) rfl | exact envC (envC (by assumption) rfl) rfl); (case k2 => rfl); (case k3 => rfl); (case k4 => rfl))
  | ((with_reducible refine' Ev.nameT ?k1 ?k2 ?k3 ?k4 ?k5 ?k6); (case k2 => rfl); (case k3 => rfl); (case k1 => first | assumption | exact envC (by assumption) rfl | exact envC (envC (by assumption) rfl) rfl); (case k4 => decide); (case k5 => rfl); (case k6 => rfl))
  | with_reducible refine' Ev.tuple ?_ ?_
  | with_reducible refine' Ev.list ?_ ?_
  | with_reducible refine' Ev.bin ?_ ?_ ?_
  | with_reducible refine' Ev.neg ?_
  | ((with_reducible refine' Ev.cmp ?_ ?_ ?_ ?k4); (case k4 => rfl))
  | ((with_reducible refine' Tr.cmp ?_ ?_ ?_ ?k4); (case k4 => rfl))
  | with_reducible refine' Tr.not ?_
  | with_reducible apply Evs.nil
  | ((with_reducible refine' Evs.cons ?_ ?_ ?k3); (case k3 => rfl))
  | with_reducible apply Part.none
  | with_reducible refine' Part.some ?_
  | with_reducible refine' Ev.slice2 ?_ ?_ ?_ ?_
  | with_reducible refine' Ev.slice3 ?_ ?_ ?_ ?_ ?_ ?_
  | with_reducible refine' Ev.item ?_ ?_ ?_
  | ((with_reducible refine' Ev.methS ?_ ?_ ?k3 ?_ ?k5 ?k6); (case k3 => rfl); (case k5 => rfl); (case k6 => rfl))
  | ((with_reducible refine' Ev.call ?k1 ?k2 ?k3 ?k4 ?k5 ?_ ?k7 ?_ ?k9); (case k2 => rfl); (case k1 => first | assumption | exact envC (by assumption) rfl | exact envC (envC (by assumption) rfl) rfl); (case k3 => rfl); (case k4 => rfl); (case k5 => rfl); (case k7 => rfl); (case k9 => rfl))
  | ((with_reducible refine' Ev.callB ?k1 ?k2 ?k3 ?k4 ?k5 ?_ ?k7 ?_ ?k9); (case k2 => rfl); (case k3 => rfl); (case k1 => first | assumption | exact envC (by assumption) rfl | exact envC (envC (by assumption) rfl) rfl); (case k4 => decide); (case k5 => rfl); (case k7 => rfl); (case k9 => rfl))
  | ((with_reducible refine' Ev.callT ?k1 ?k2 ?k3 ?k4 ?k5 ?_ ?k7 ?_ ?k9); (case k2 => rfl); (case k3 => rfl); (case k1 => first | assumption | exact envC (by assumption) rfl | exact envC (envC (by assumption) rfl) rfl); (case k4 => decide); (case k5 => rfl); (case k7 => rfl); (case k9 => rfl)))
local macro_rules | `(tactic| walk_at "srch") => `(tactic| ((refine' Tr.search (by assumption) ?g1 ?g2 ?g3 ?g4 ?ha ?hz ?g7 ?g8 ?g9 ?g10); (case g1 => rfl); (case g2 => rfl); (case g3 => rfl); (case g4 => rfl); (case g7 => rfl); (case g8 => rfl); (case g9 => rfl); (case g10 => (intro _; rfl)); (case ha => walk_at "ev1"); (case hz => omega)))

theorem at170 (P : Params) : FnAt (hd.heap_39 P) 170 (fdOf P 170) (bodyOf P 170) := ⟨⟨_, rfl, rfl⟩, by rfl, rfl, rfl, rfl, rfl, rfl, rfl, rfl⟩
theorem bind170 (P : Params) (v : Value) : bindArgs (fdOf P 170) ⟨[v], []⟩ = pure [(Str.ofString "paths", v)] := by kernel_rfl
def keepC (x : Str) : Bool := x.length != 0 && (cl x != cl (Str.ofString "."))
def splC (ps : List Str) : List (List Str) := ps.map fun p => (Txt.split p (Str.ofString "/")).filter keepC
def comL : List Str → List Str → List Str
  | a :: s, b :: t => if (cl a == cl b) = true then a :: comL s t else []
  | _, _ => []
def commonF (ps : List Str) : Str := Str.ofString "/" ++ Txt.join (Str.ofString "/") (comL (minL (splC ps)) (maxL (splC ps)))
structure ComOk (ps : List Str) : Prop where
  ne : ps ≠ []
  len : ps.length ≤ 10
  abs : ∀ p ∈ ps, Txt.startswith p (Str.ofString "/") = true
  sz : ∀ p ∈ ps, p.length ≤ 1000
  pt : ∀ p ∈ ps, ∀ x ∈ Txt.split p (Str.ofString "/"), x.length ≤ 1000
  pn : ∀ p ∈ ps, (Txt.split p (Str.ofString "/")).length ≤ 1000
  pre : ∀ i, i < (minL (splC ps)).length → (minL (splC ps)).take i = (maxL (splC ps)).take i → i < (maxL (splC ps)).length
  nm : (minL (splC ps)).length ≤ 1000
  nx : (maxL (splC ps)).length ≤ 1000
  jn : JoinOk (Str.ofString "/") (comL (minL (splC ps)) (maxL (splC ps))) = true
  jl : (Txt.join (Str.ofString "/") (comL (minL (splC ps)) (maxL (splC ps)))).length ≤ 1000
theorem split_parts (x : Str) (h : x.length ≤ 1000) : (Builtin.Str.partsBetween x (Builtin.Str.occurrences x (Str.ofString "/") 0 x.length (x.length + 1)) (Str.ofString "/").length).length ≤ 100000 := by
  rw [ofs_slash]; exact split_len x 47 h
abbrev c170 (w : World) (A : Around) (L : Addr) (mu : List Addr) (ps : List Str) : Cx :=
  (((cxOf PR w A (hd.heap_39 w.params) (fdOf w.params 170) L 170 mu (rho1 (Str.ofString "paths") (.list (ps.map D.str)))).set (Str.ofString "paths") (.tup (ps.map D.str))).set (Str.ofString "sep") (.str (Str.ofString "/"))).set (Str.ofString "curdir") (.str (Str.ofString "."))
def cmpD (d : D) : Bool := match d with | .str x => keepC x | _ => false
def splD (d : D) : D := match d with | .str x => dRow (Txt.split x (Str.ofString "/")) | _ => .none

theorem filter_rowD (f : Str → Bool) (g : D → Bool) (h : ∀ x, g (.str x) = f x) : ∀ r : List Str, (r.map D.str).filter g = (r.filter f).map D.str
  | [] => rfl
  | x :: r => by
    rw [List.map_cons, List.filter_cons, List.filter_cons, h, filter_rowD f g h r]
    cases f x <;> rfl
def keepD (d : D) : D := match d with | .list ds => .list (ds.filter cmpD) | _ => .none
abbrev c170b (w : World) (A : Around) (L : Addr) (mu : List Addr) (ps : List Str) : Cx := (c170 w A L mu ps).set (Str.ofString "split_paths") (.list ((ps.map fun p => Txt.split p (Str.ofString "/")).map dRow))
abbrev c170c (w : World) (A : Around) (L : Addr) (mu : List Addr) (ps : List Str) : Cx := (c170b w A L mu ps).set (Str.ofString "isabs") (.bool true)
theorem comL_cut : ∀ (i : Nat) (s t : List Str) (x y : Str), s.take i = t.take i → s[i]? = some x → t[i]? = some y → (cl x == cl y) = false → comL s t = s.take i
  | 0, [], _, _, _, _, h, _, _ => by cases h
  | 0, _ :: _, [], _, _, _, _, h, _ => by cases h
  | 0, a :: s, b :: t, x, y, _, h1, h2, h3 => by
    have e1 : a = x := by simpa using h1
    have e2 : b = y := by simpa using h2
    show (if (cl a == cl b) = true then a :: comL s t else []) = _
    rw [e1, e2, h3]; rfl
  | i + 1, [], _, _, _, _, h, _, _ => by simp at h
  | i + 1, _ :: _, [], _, _, h, _, _, _ => by simp at h
  | i + 1, a :: s, b :: t, x, y, h, h1, h2, h3 => by
    rw [List.take_succ_cons, List.take_succ_cons] at h
    injection h with h4 h5
    have ih := comL_cut i s t x y h5 (by simpa using h1) (by simpa using h2) h3
    show (if (cl a == cl b) = true then a :: comL s t else []) = _
    rw [h4, beq_self_eq_true, if_pos rfl, ih, List.take_succ_cons]
theorem comL_all : ∀ (s t : List Str), s.take s.length = t.take s.length → comL s t = s
  | [], _, _ => rfl
  | _ :: _, [], h => by simp at h
  | a :: s, b :: t, h => by
    rw [List.length_cons, List.take_succ_cons, List.take_succ_cons] at h
    injection h with h4 h5
    show (if (cl a == cl b) = true then a :: comL s t else []) = _
    rw [h4, beq_self_eq_true, if_pos rfl, comL_all s t h5]
theorem take_more {α : Type} {s t : List α} {i : Nat} {x : α} (h : s.take i = t.take i) (h1 : s[i]? = some x) (h2 : t[i]? = some x) : s.take (i + 1) = t.take (i + 1) := by
  rw [List.take_add_one, List.take_add_one, h, h1, h2]
abbrev c170d (w : World) (A : Around) (L : Addr) (mu : List Addr) (ps : List Str) (S1 S2 : List Str) : Cx :=
  ((((c170c w A L mu ps).set (Str.ofString "split_paths") (.list ((splC ps).map fun xs => .list (xs.map D.str)))).set (Str.ofString "s1") (dRow S1)).set (Str.ofString "s2") (dRow S2)).set (Str.ofString "common") (dRow S1)
set_option maxHeartbeats 4000000 in
theorem body170 (w : World) (ps : List Str) (hp : ComOk ps) :
    BodyDoes PR w (hd.heap_39 w.params) 30 170 (fdOf w.params 170) (bodyOf w.params 170) (rho1 (Str.ofString "paths") (.list (ps.map D.str))) (.str (commonF ps)) := by
  refine ⟨?_⟩
  intro A L mu s₀ s Q E room gl st h
  have ok := st.ok
  have hlen : (ps.map D.str).length ≤ 100000 := by rw [List.length_map]; have := hp.len; omega
  obtain ⟨p0, prest, hps⟩ := List.exists_cons_of_ne_nil hp.ne
  show wpAny _ _ (execs (.Assign [.Name _ _] _ _ :: .If _ _ _ _ :: .If _ _ _ _ :: .Try _ _ [] [] _ :: []) _) _ _ _
  refine' st.assign gl (d := .tup (ps.map D.str)) ?he1 (.inl rfl) (fun _ _ _ e => by cases e) rfl ?w1
  case he1 =>
    refine' Ev.tupleMap (k := 21) (a := 144) ok (room.le (by omega)) (fun x => fn144 w x) (by have := hp.len; omega) rfl rfl (by decide) rfl rfl rfl rfl (by decide) rfl rfl rfl rfl rfl ?_ rfl rfl
    walk_at "ev1"
  intro s1 st1
  refine' st1.if_ (b := false) ?ht2 ?p2 ?q2
  case ht2 =>
    refine' Tr.eq ?a1 ?a2
    case a1 =>
      refine' Tr.not (b := (ps.map D.str).length != 0) ?a3
      refine' Tr.valT ?a4 hlen ?a5
      case a5 => intro _; rfl
      case a4 => walk_at "ev1"
    case a2 => rw [List.length_map, hps]; rfl
  case p2 => intro e; cases e
  case q2 =>
  intro _ s2 st2
  refine wpAny_execs_nil ?_
  refine' st2.if_ (b := false) ?ht3 ?p3 ?q3
  case ht3 =>
    refine' Tr.val ?b1 ?b2
    case b2 => intro _; rfl
    case b1 =>
      (refine' Ev.callB ?k1 ?k2 ?k3 ?k4 ?k5 ?k6 ?k7 ?k8 ?k9); (case k2 => rfl); (case k3 => rfl); (case k1 => assumption); (case k4 => decide); (case k5 => rfl); (case k7 => rfl); (case k9 => rfl)
      case k6 =>
        refine' Evs.cons (d := .str p0) (Ev.itemT ?c1 Ev.int ?c2 hlen) ?c3 rfl
        case c1 => walk_at "ev1"
        case c2 => rw [hps]; rfl
        case c3 => repeat' walk_at "ev1"
      case k8 => exact Bi.isbytes
  case p3 => intro e; cases e
  case q3 =>
  intro _ s3 st3
  show wpAny _ _ (execs (.Assign [.Name _ _] _ _ :: .Assign [.Name _ _] _ _ :: []) _) _ _ _
  refine' st3.assign gl (d := .str (Str.ofString "/")) Ev.str (.inr ⟨rfl, rfl⟩) (fun _ _ _ e => by cases e) rfl ?w4
  intro s4 st4
  refine' st4.assign gl (d := .str (Str.ofString ".")) Ev.str (.inr ⟨rfl, rfl⟩) (fun _ _ _ e => by cases e) rfl ?w5
  intro s5 st5
  refine wpAny_execs_nil ?_
  refine' St.try_ (c := c170 w A L mu ps) ?t1
  intro E'
  show wpAny _ _ (execs (.Assign [.Name _ _] (.ListComp _ [⟨.Name _ _, _, [], 0⟩] _ _) _ :: .Try _ _ [] [] _ :: .Assign [.Name _ _] (.ListComp _ [⟨.Name _ _, _, [], 0⟩] _ _) _ :: .Assign [.Name _ _] _ _ :: .Assign [.Name _ _] _ _ :: .Assign [.Name _ _] _ _ :: .For _ _ _ [] _ :: .Assign [.Name _ _] _ _ :: .Return (some _) _ :: []) _) _ _ _
  refine' st5.assignComp (c := c170 w A L mu ps) (d0 := .tup (ps.map D.str)) (src := ps.map D.str) (cl := [(Str.ofString "sep", L + 1)]) (rf := rho1 (Str.ofString "sep") (.str (Str.ofString "/"))) (fun _ => true) splD
    gl rfl rfl (fun _ _ _ e => by cases e) rfl ?d1 rfl ?d2 rfl ?d3 (Itr.tup room.hd) hlen ?d4 ?d5 ?d6 (fun _ => rfl) ?d7
  case d1 => decide
  case d2 => decide
  case d3 => walk_at "ev1"
  case d4 => exact Free.one rfl (fun _ => .inl rfl) (.inl rfl) rfl
  case d5 => intro C Dd I d hd; exact Tests.nil
  case d6 =>
    intro C Dd I d hd _
    obtain ⟨x, hx, rfl⟩ := List.mem_map.mp hd
    have hx1 := hp.sz x hx
    (repeat' walk_at "ev1")
    any_goals exact Bi.split (by omega) (by decide +kernel) (split_parts x hx1)
  case d7 =>
  intro s6 st6
  have e6 : ((ps.map D.str).filter fun _ => true).map splD = (ps.map fun p => Txt.split p (Str.ofString "/")).map dRow := by
    rw [filter_true, List.map_map, List.map_map]; rfl
  rw [e6] at st6
  have st6' : St (c170b w A L mu ps) s₀ s6 := st6
  refine' St.try_ (c := c170b w A L mu ps) ?t2
  intro E2
  show wpAny _ _ (execs (.Assign [.Tuple [.Name _ _] _ _] (.SetComp _ [⟨.Name _ _, _, [], 0⟩] _ _) _ :: []) _) _ _ _
  refine' st6'.unpackSet (c := c170b w A L mu ps) (d0 := .tup (ps.map D.str)) (src := ps.map D.str) (cl := [(Str.ofString "sep", L + 1)]) (rf := rho1 (Str.ofString "sep") (.str (Str.ofString "/")))
    gl room.hd (.inl rfl) (fun _ _ _ e => by cases e) rfl ?f1 rfl ?f2 rfl ?f3 (Itr.tup room.hd) ?f4 ?f5 ?f6 (fun _ => rfl) rfl rfl ?f7
  case f1 => decide
  case f2 => decide
  case f3 => walk_at "ev1"
  case f4 => rw [List.length_map, hps]; exact Nat.succ_pos _
  case f5 => exact Free.one rfl (fun _ => .inl rfl) (.inl rfl) rfl
  case f6 =>
    intro C Dd I d hd
    obtain ⟨x, hx, rfl⟩ := List.mem_map.mp hd
    refine' Ev.eq ?f8 ?f9
    case f8 => (repeat' walk_at "ev1"); (any_goals exact Bi.startswith)
    case f9 => exact congrArg D.bool (hp.abs x hx)
  case f7 =>
  intro s7 st7
  have st7' : St (c170c w A L mu ps) s₀ s7 := st7
  refine wpAny_execs_nil ?_
  refine' st7'.assignComp (c := c170c w A L mu ps) (d0 := .list ((ps.map fun p => Txt.split p (Str.ofString "/")).map dRow)) (src := (ps.map fun p => Txt.split p (Str.ofString "/")).map dRow) (cl := [(Str.ofString "curdir", L + 2)]) (rf := rho1 (Str.ofString "curdir") (.str (Str.ofString "."))) (fun _ => true) keepD
    gl rfl rfl (fun _ _ _ e => by cases e) rfl ?g1 rfl ?g2 rfl ?g3 (Itr.list room.hd) ?g4 ?g5 ?g6 ?g7 (fun _ => rfl) ?g8
  case g1 => decide
  case g2 => decide
  case g3 => walk_at "ev1"
  case g4 => rw [List.length_map, List.length_map]; have := hp.len; omega
  case g5 => exact Free.one rfl (fun _ => .inl rfl) (.inl rfl) rfl
  case g6 => intro C Dd I d hd; exact Tests.nil
  case g7 =>
    intro C Dd I d hd _
    obtain ⟨r, hr, rfl⟩ := List.mem_map.mp hd
    obtain ⟨p, hpp, rfl⟩ := List.mem_map.mp hr
    have hpn := hp.pn p hpp
    have hpt := hp.pt p hpp
    generalize Txt.split p (Str.ofString "/") = r at *
    refine' Ev.eq ?h1 ?h2
    case h1 =>
      refine' Ev.comp (d0 := .list (r.map D.str)) (src := r.map D.str) (cl := [(Str.ofString "curdir", L + 2)]) (rf := rho1 (Str.ofString "curdir") (.str (Str.ofString "."))) cmpD id
        rfl ?h3 rfl ?h4 rfl ?h5 (Itr.list room.hd) ?h6 ?h7 ?h8 ?h9 (fun _ => rfl)
      case h3 => decide
      case h4 => decide
      case h5 => walk_at "ev1"
      case h6 => rw [List.length_map]; omega
      case h7 => exact Free.one rfl (fun _ => .inl rfl) (.inl rfl) rfl
      case h8 =>
        intro C' Dd' I' d' hd'
        obtain ⟨x, hx, rfl⟩ := List.mem_map.mp hd'
        have hx1 := hpt x hx
        refine' Tests.one ?i1
        refine' Tr.and2 ?i2 (fun _ => ?i3)
        case i2 =>
          refine' Tr.valS ?i4 (by omega) ?i5
          case i5 => intro _; rfl
          case i4 => walk_at "ev1"
        case i3 => (repeat' walk_at "ev1"); (any_goals exact CmpR.neS)
      case h9 =>
        intro C' Dd' I' d' hd' _
        obtain ⟨x, hx, rfl⟩ := List.mem_map.mp hd'
        walk_at "ev1"
    case h2 => rw [List.map_id]; rfl
  case g8 =>
  intro s8 st8
  have e8 : (((ps.map fun p => Txt.split p (Str.ofString "/")).map dRow).filter fun _ => true).map keepD = (splC ps).map fun xs => .list (xs.map D.str) := by
    rw [filter_true]
    unfold splC
    rw [List.map_map, List.map_map, List.map_map]
    refine List.map_congr_left fun p _ => ?_
    show D.list (((Txt.split p (Str.ofString "/")).map D.str).filter cmpD) = _
    rw [filter_rowD keepC cmpD (fun _ => rfl)]
    rfl
  rw [e8] at st8
  have hsne : splC ps ≠ [] := by unfold splC; rw [hps]; simp
  obtain ⟨hpre, hnm, hnx, hjn, hjl⟩ : _ ∧ _ ∧ _ ∧ _ ∧ _ := ⟨hp.pre, hp.nm, hp.nx, hp.jn, hp.jl⟩
  unfold commonF at h
  refine' st8.assign gl (d := dRow (minL (splC ps))) ?j1 (.inl rfl) (fun _ _ _ e => by cases e) rfl ?j2
  case j1 => (repeat' walk_at "ev1"); (any_goals exact Bi.min (room.le (by omega)) hsne)
  intro s9 st9
  refine' st9.assign gl (d := dRow (maxL (splC ps))) ?j3 (.inl rfl) (fun _ _ _ e => by cases e) rfl ?j4
  case j3 => (repeat' walk_at "ev1"); (any_goals exact Bi.max (room.le (by omega)) hsne)
  intro s10 st10
  generalize minL (splC ps) = S1 at *
  generalize maxL (splC ps) = S2 at *
  refine' st10.assign gl (d := dRow S1) ?j5 (.inl rfl) (fun _ _ _ e => by cases e) rfl ?j6
  case j5 => walk_at "ev1"
  intro s11 st11
  have st11' : St (c170d w A L mu ps S1 S2) s₀ s11 := st11
  have hn1 : (S1.map D.str).length ≤ 100000 := by rw [List.length_map]; omega
  have hn2 : (S2.map D.str).length ≤ 100000 := by rw [List.length_map]; omega
  have hs1 : (Str.ofString "/").length = 1 := by decide +kernel
  refine' st11'.forEnum (c := c170d w A L mu ps S1 S2) (src := S1.map D.str) (fun _ => (c170d w A L mu ps S1 S2).rho) (fun i => S1.take i = S2.take i) (fun i => comL S1 S2 = S1.take i) (fun i => upd (c170d w A L mu ps S1 S2).rho (Str.ofString "common") (dRow (S1.take i)))
    gl room.hd rfl (fun _ _ q => q) rfl rfl rfl (by decide) rfl rfl ?l1 rfl rfl rfl (fun _ => rfl) (fun _ _ q => q) rfl ?l2 ?l3 ?l4
  case l1 => walk_at "ev1"
  case l3 =>
    intro i s' hb st'
    show wpAny _ _ (execs (.Assign [.Name _ _] _ _ :: .Return (some _) _ :: []) _) _ _ _
    refine' st'.assign gl (d := .str (Str.ofString "/")) ?m1 (.inl rfl) (fun _ _ _ e => by cases e) rfl ?m2
    case m1 =>
      refine' Ev.ifexp (b := true) ?m3 (fun _ => ?m4) (fun e => by cases e)
      case m3 =>
        refine' Tr.val ?m5 ?m6
        case m6 => intro _; rfl
        case m5 => walk_at "ev1"
      case m4 => walk_at "ev1"
    intro s12 st12
    refine' st12.ret (d := .str (Str.ofString "/" ++ Txt.join (Str.ofString "/") (S1.take i))) ?m7 (fin_of h mu_r (by rw [hb]))
    (repeat' walk_at "ev1")
    any_goals exact Bi.join (by rw [← hb]; exact hjn)
    any_goals exact BinR.addS (by rw [← hb, hs1]; omega)
  case l4 =>
    intro s' hI st'
    have hb : comL S1 S2 = S1 := comL_all S1 S2 (by rw [List.length_map] at hI; exact hI)
    show wpAny _ _ (execs (.Assign [.Name _ _] _ _ :: .Return (some _) _ :: []) _) _ _ _
    refine' st'.assign gl (d := .str (Str.ofString "/")) ?n1 (.inl rfl) (fun _ _ _ e => by cases e) rfl ?n2
    case n1 =>
      refine' Ev.ifexp (b := true) ?n3 (fun _ => ?n4) (fun e => by cases e)
      case n3 =>
        refine' Tr.val ?n5 ?n6
        case n6 => intro _; rfl
        case n5 => walk_at "ev1"
      case n4 => walk_at "ev1"
    intro s12 st12
    refine' st12.ret (d := .str (Str.ofString "/" ++ Txt.join (Str.ofString "/") (S1))) ?n7 (fin_of h mu_r (by rw [hb]))
    (repeat' walk_at "ev1")
    any_goals exact Bi.join (by rw [← hb]; exact hjn)
    any_goals exact BinR.addS (by rw [← hb, hs1]; omega)
  case l2 =>
    intro wr pins dt i d s' E3 hd hI st'
    have ok2 := st'.ok
    have hd' : ∃ x, S1[i]? = some x ∧ d = .str x := by
      rw [List.getElem?_map] at hd
      cases hx : S1[i]? with
      | none => rw [hx] at hd; cases hd
      | some x => rw [hx] at hd; cases hd; exact ⟨x, rfl, rfl⟩
    obtain ⟨x, hx, rfl⟩ := hd'
    have hi1 : i < S1.length := (List.getElem?_eq_some_iff.mp hx).1
    have hi2 : i < S2.length := hpre i hi1 hI
    obtain ⟨y, hy⟩ : ∃ y, S2[i]? = some y := ⟨_, List.getElem?_eq_getElem hi2⟩
    show wpAny _ _ (execs (.If _ _ [] _ :: []) _) _ _ _
    refine' st'.if_ (b := x.cps.toList != y.cps.toList) ?o1 ?o2 ?o3
    case o1 =>
      (repeat' walk_at "ev1")
      any_goals exact ItemR.list (d := .str y) (by omega) (by rw [Int.toNat_natCast, List.getElem?_map, hy]; rfl) hn2
      any_goals exact CmpR.neS
    case o2 =>
      intro hb s2 st2
      show wpAny _ _ (execs (.Assign [.Name _ _] _ _ :: .Break _ :: []) _) _ _ _
      refine' st2.assign gl (d := dRow (S1.take i)) ?o4 (.inl rfl) (fun _ _ _ e => by cases e) rfl ?o5
      case o4 =>
        refine' Ev.eq ?o6 ?o7
        case o6 => (repeat' walk_at "ev1"); (any_goals exact SliceR.list (by decide) hn1)
        case o7 => rw [pickD_to, ← List.map_take]
      intro s3 st3
      refine wpAny_execs_cons (wpAny_Break ⟨comL_cut i S1 S2 x y hI hx hy (by have hb' : (!(cl x == cl y)) = true := hb; simpa only [Bool.not_eq_true'] using hb'), ?_⟩)
      exact st3.weak _ (upd_mono (upd_weak2 rfl rfl) _ _)
    case o3 =>
      intro hb s2 st2
      refine wpAny_execs_nil (wpAny_execs_nil ⟨?_, ?_⟩)
      · have hxy : x = y := cl_inj (by have hb' : (!(cl x == cl y)) = false := hb; simpa using hb')
        exact take_more hI hx (hxy ▸ hy)
      · exact st2.weak _ (upd_weak2 rfl rfl)
theorem fn170 (w : World) (ps : List Str) (hp : ComOk ps) : Fn PR w (hd.heap_39 w.params) 31 170 [.list (ps.map D.str)] (.str (commonF ps)) := by
  have hb := body170 w ps hp
  generalize commonF ps = y at hb ⊢
  refine Fn.intro1 (n := Str.ofString "paths") (at170 w.params) (bind170 w.params) ?_ (.inl rfl) hb
  intro L; show [Str.ofString "curdir", Str.ofString "sep"].Nodup; decide
end
end Mine
end PdWPart
section PdXPart
open PySem PySem.W PyProof.Rows
namespace Mine
noncomputable section
local macro_rules | `(tactic| walk_at "ev1") => `(tactic| first
  | with_reducible apply Ev.str
  | with_reducible apply Ev.int
  | with_reducible apply Ev.bool
  | ((with_reducible refine' Ev.name ?k1 ?k2 ?k3 ?k4); (case k1 => first | assumption | exact envC (by assumption) rfl | exact envC (envC (by assumption) rfl) rfl); (case k2 => rfl); (case k3 => rfl); (case k4 => rfl))
  | ((with_reducible refine' Ev.nameT ?k1 ?k2 ?k3 ?k4 ?k5 ?k6); (case k2 => rfl); (case k3 => rfl); (case k1 => first | assumption | exact envC (by assumption) rfl | exact envC (envC (by assumption) rfl) rfl); (case k4 => decide); (case k5 => rfl); (case k6 => rfl))
  | with_reducible refine' Ev.tuple ?_ ?_
  | with_reducible refine' Ev.list ?_ ?_
  | with_reducible refine' Ev.bin ?_ ?_ ?_
  | with_reducible refine' Ev.neg ?_
  | ((with_reducible refine' Ev.cmp ?_ ?_ ?_ ?k4); (case k4 => rfl))
  | ((with_reducible refine' Tr.cmp ?_ ?_ ?_ ?k4); (case k4 => rfl))
  | with_reducible refine' Tr.not ?_
  | with_reducible apply Evs.nil
  | ((with_reducible refine' Evs.cons ?_ ?_ ?k3); (case k3 => rfl))
  | with_reducible apply Part.none
  | with_reducible refine' Part.some ?_
  | with_reducible refine' Ev.slice2 ?_ ?_ ?_ ?_
  | with_reducible refine' Ev.slice3 ?_ ?_ ?_ ?_ ?_ ?_
  | with_reducible refine' Ev.item ?_ ?_ ?_
  | ((with_reducible refine' Ev.methS ?_ ?_ ?k3 ?_ ?k5 ?k6); (case k3 => rfl); (case k5 => rfl); (case k6 => rfl))
  | ((with_reducible refine' Ev.call ?k1 ?k2 ?k3 ?k4 ?k5 ?_ ?k7 ?_ ?k9); (case k2 => rfl); (case k1 => first | assumption | exact envC (by assumption) rfl | exact envC (envC (by assumption) rfl) rfl); (case k3 => rfl); (case k4 => rfl); (case k5 => rfl); (case k7 => rfl); (case k9 => rfl))
  | ((with_reducible refine' Ev.callB ?k1 ?k2 ?k3 ?k4 ?k5 ?_ ?k7 ?_ ?k9); (case k2 => rfl); (case k3 => rfl); (case k1 => first | assumption | exact envC (by assumption) rfl | exact envC (envC (by assumption) rfl) rfl); (case k4 => decide); (case k5 => rfl); (case k7 => rfl); (case k9 => rfl))
  | ((with_reducible refine' Ev.callT ?k1 ?k2 ?k3 ?k4 ?k5 ?_ ?k7 ?_ ?k9); (case k2 => rfl); (case k3 => rfl); (case k1 => first | assumption | exact envC (by assumption) rfl | exact envC (envC (by assumption) rfl) rfl); (case k4 => decide); (case k5 => rfl); (case k7 => rfl); (case k9 => rfl)))
local macro_rules | `(tactic| walk_at "srch") => `(tactic| ((refine' Tr.search (by assumption) ?g1 ?g2 ?g3 ?g4 ?ha ?hz ?g7 ?g8 ?g9 ?g10); (case g1 => rfl); (case g2 => rfl); (case g3 => rfl); (case g4 => rfl); (case g7 => rfl); (case g8 => rfl); (case g9 => rfl); (case g10 => (intro _; rfl)); (case ha => walk_at "ev1"); (case hz => omega)))

structure Sm (r : List Str) : Prop where
  n : r.length ≤ 8
  x : ∀ t ∈ r, t.length ≤ 8
theorem Sm.take {r : List Str} (h : Sm r) (k : Nat) : Sm (r.take k) := ⟨Nat.le_trans (List.length_take_le' _ _) h.n, fun t ht => h.x t (List.mem_of_mem_take ht)⟩
theorem Sm.rev {r : List Str} (h : Sm r) : Sm r.reverse := ⟨by rw [List.length_reverse]; exact h.n, fun t ht => h.x t (List.mem_reverse.mp ht)⟩
theorem fold_sm (sep : Str) (hs : sep.length ≤ 1) : ∀ (r : List Str) (a : Nat), (∀ t ∈ r, t.length ≤ 8) → r.foldl (fun a t => a + t.length + sep.length) a ≤ a + 9 * r.length
  | [], a, _ => by simp
  | t :: r, a, h => by
    have h1 := h t (.head _)
    have := fold_sm sep hs r (a + t.length + sep.length) fun u hu => h u (.tail _ hu)
    rw [List.foldl_cons, List.length_cons]
    omega
theorem Sm.joinOk {r : List Str} (h : Sm r) {sep : Str} (hs : sep.length ≤ 1) : JoinOk sep r = true := by
  unfold JoinOk
  rw [List.foldl_toArray]
  have h1 := fold_sm sep hs r 0 h.x
  have h2 := h.n
  have h3 : Builtin.Str.tooLong (List.foldl (fun x1 x2 => x1 + x2.length + sep.length) 0 r) = false := short _ (by omega)
  rw [h3]; rfl
theorem sum_sm : ∀ r : List Str, (∀ t ∈ r, t.length ≤ 8) → (r.map (·.length)).sum ≤ 8 * r.length
  | [], _ => by simp
  | t :: r, h => by
    have h1 := h t (.head _)
    have := sum_sm r fun u hu => h u (.tail _ hu)
    rw [List.map_cons, List.sum_cons, List.length_cons]; omega
theorem Sm.joinLen {r : List Str} (h : Sm r) {sep : Str} (hs : sep.length ≤ 1) : (Txt.join sep r).length ≤ 72 := by
  rw [txt_join]
  have h1 := StrLaws.join_length_le sep r
  have h2 := sum_sm r h.x
  have h3 := h.n
  have h4 : r.length * sep.length ≤ r.length * 1 := Nat.mul_le_mul_left _ hs
  omega
def lowR (r : List Str) : List Str := r.map Txt.lower
def headS (r : List Str) : Str := r.headD (Str.ofString "")
def leastF (r0 : List Str) : Nat := if ((headS r0).cps.toList == (Str.ofString "local").cps.toList) = true then 1 else 2
def namedF (l0 : List Str) : Bool := (headS l0).cps.toList != (Str.ofString "77").cps.toList
def badAt (l0 : List Str) (k : Nat) (r : List Str) : Bool := decide ((r.length : Int) ≤ (k : Int)) || (r.take k != l0.take k)
def sizeF (low : List (List Str)) (l0 : List Str) : Nat → Nat
  | 0 => 0
  | k + 1 => if low.any (badAt l0 (k + 1)) = true then sizeF low l0 k else k + 1
def rungF (r0 : List Str) (k : Nat) : Str := Str.ofString "." ++ Txt.join (Str.ofString ".") (r0.take k).reverse
def rungsF (r0 : List Str) (nm : Bool) (m : Nat) : List Str := if nm = true then (List.range (r0.length - m)).map (fun i => rungF r0 (r0.length - 1 - i)) else []
structure DueOk (r0 : List Str) (rs : List (List Str)) : Prop where
  len : (r0 :: rs).length ≤ 10
  sm : ∀ r ∈ r0 :: rs, Sm r ∧ r ≠ []
  low : ∀ r ∈ r0 :: rs, ∀ x ∈ r, (Txt.lower x).length ≤ 8
def dSize (r0 : List Str) (rs : List (List Str)) : Nat := sizeF ((r0 :: rs).map lowR) (lowR r0) (r0.length - 1)
def dRungs (r0 : List Str) (rs : List (List Str)) : List Str := rungsF r0 (namedF (lowR r0)) (max (dSize r0 rs) (leastF r0))
def dShared (r0 : List Str) (rs : List (List Str)) : Str := Str.ofString "/" ++ Txt.join (Str.ofString "/") ((lowR r0).take (dSize r0 rs))
def dUnder (r0 : List Str) (rs : List (List Str)) : List Bool := (r0 :: rs).map fun _ => namedF (lowR r0) && decide ((dSize r0 rs : Int) > 0)
def dSame (r0 : List Str) (rs : List (List Str)) : List Bool := (r0 :: rs).map fun r => lowR r == lowR r0
def dFound (r0 : List Str) (rs : List (List Str)) : Bool := (dRungs r0 rs).length != 0 && decide ((dSize r0 rs : Int) ≥ (leastF r0 : Int))
abbrev dAns (a : List Str) (b : Bool) (x : Str) (u v : List Bool) : D := .tup [dRow a, .bool b, .str x, .list (u.map D.bool), .list (v.map D.bool)]
theorem at196 (P : Params) : FnAt (hd.heap_39 P) 196 (fdOf P 196) (bodyOf P 196) := ⟨⟨_, rfl, rfl⟩, by rfl, rfl, rfl, rfl, rfl, rfl, rfl, rfl⟩
theorem bind196 (P : Params) (v : Value) : bindArgs (fdOf P 196) ⟨[v], []⟩ = pure [(Str.ofString "rows", v)] := by kernel_rfl
theorem Bi.lowerD {c : Cx} {x : Str} (h : (Txt.lower x).length ≤ 8) : Bi c (.builtin "str.lower") [.str x] (.str (Txt.lower x)) := Bi.lower (by omega)
def lowD (d : D) : D := match d with | .str x => .str (Txt.lower x) | _ => .none
def lowDD (d : D) : D := match d with | .list ds => .list (ds.map lowD) | _ => .none
def badD (l0 : List Str) (k : Nat) (d : D) : Bool := match d with | .list ds => decide ((ds.length : Int) ≤ (k : Int)) || (let r := ds.map (fun e => match e with | .str x => x | _ => Str.ofString ""); r.take k != l0.take k) | _ => false
theorem badD_row (l0 : List Str) (k : Nat) (r : List Str) : badD l0 k (dRow r) = badAt l0 k r := by
  have e : (r.map D.str).map (fun e => match e with | .str x => x | _ => Str.ofString "") = r := by
    rw [List.map_map]; exact List.map_id r
  show (decide (((r.map D.str).length : Int) ≤ (k : Int)) || (((r.map D.str).map (fun e => match e with | .str x => x | _ => Str.ofString "")).take k != l0.take k)) = _
  rw [e, List.length_map]; rfl
abbrev c196 (w : World) (A : Around) (L : Addr) (mu : List Addr) (r0 : List Str) (rs : List (List Str)) : Cx :=
  (cxOf PR w A (hd.heap_39 w.params) (fdOf w.params 196) L 196 mu (rho1 (Str.ofString "rows") (.list ((r0 :: rs).map dRow)))).set (Str.ofString "low") (.list (((r0 :: rs).map lowR).map dRow))
theorem any_filter {α : Type} (p : α → Bool) : ∀ l : List α, ((l.filter p).length != 0) = l.any p
  | [] => rfl
  | a :: l => by
    rw [List.filter_cons, List.any_cons, ← any_filter p l]
    cases p a <;> simp
theorem any_rowD (l0 : List Str) (k : Nat) (rows : List (List Str)) : ((((rows.map dRow).filter (badD l0 k)).map id).length != 0) = rows.any (badAt l0 k) := by
  rw [List.map_id, any_filter]
  rw [List.any_map]
  refine congrArg (fun f => rows.any f) (funext fun r => badD_row l0 k r)
theorem sizeF_stop (low : List (List Str)) (l0 : List Str) (k : Nat) (h : low.any (badAt l0 k) = false) : sizeF low l0 k = k := by
  cases k with
  | zero => rfl
  | succ k => show (if low.any (badAt l0 (k + 1)) = true then _ else _) = _; rw [h]; rfl
theorem sizeF_go (low : List (List Str)) (l0 : List Str) (k : Nat) (h : low.any (badAt l0 (k + 1)) = true) : sizeF low l0 (k + 1) = sizeF low l0 k := by
  show (if low.any (badAt l0 (k + 1)) = true then _ else _) = _; rw [h]; rfl
theorem bad_zero (l0 : List Str) (low : List (List Str)) (h : ∀ r ∈ low, r ≠ []) : low.any (badAt l0 0) = false := by
  rw [List.any_eq_false]
  intro r hr
  have h1 := h r hr
  have h2 : ¬ ((r.length : Int) ≤ 0) := by
    cases r with
    | nil => exact absurd rfl h1
    | cons a r => rw [List.length_cons]; omega
  unfold badAt
  rw [show ((0 : Nat) : Int) = 0 from rfl, decide_eq_false h2]
  simp
theorem small_down {a b : Int} (ha : -(2 ^ 62) ≤ a) (ha' : a < 2 ^ 62) (hb : -(2 ^ 62) ≤ b) (hb' : b < 2 ^ 62) : Builtin.Range.small a b (-1) = true := by
  unfold Builtin.Range.small
  have e : Builtin.Range.rangeSize a b (-1) = if a > b then a - b else 0 := by
    unfold Builtin.Range.rangeSize
    rw [if_neg (by decide)]
    split
    · rw [show (-(-1) : Int) = 1 from rfl, Int.ediv_one]; omega
    · rfl
  rw [e]
  simp only [Builtin.Range.rangeFitsLong, Bool.and_eq_true, Bool.or_eq_true, decide_eq_true_eq, beq_iff_eq, show ¬ ((-1 : Int) > 0) by decide, if_false]
  split <;> omega
theorem rangeSize_down (n m : Nat) : Builtin.Range.rangeSize ((n : Int) - 1) ((m : Int) - 1) (-1) = ((n - m : Nat) : Int) := by
  unfold Builtin.Range.rangeSize
  rw [if_neg (by decide)]
  split
  · rw [show (-(-1) : Int) = 1 from rfl, Int.ediv_one]; omega
  · omega
def rungD (r0 : List Str) (d : D) : D := match d with | .int v => .str (rungF r0 v.toNat) | _ => .none
def sameD (l0 : List Str) (d : D) : D := match d with | .list ds => .bool (ds.map (fun e => match e with | .str x => x | _ => Str.ofString "") == l0) | _ => .none
theorem sameD_row (l0 r : List Str) : sameD l0 (dRow r) = .bool (r == l0) := by
  have e : (r.map D.str).map (fun e => match e with | .str x => x | _ => Str.ofString "") = r := by
    rw [List.map_map]; exact List.map_id r
  show D.bool (((r.map D.str).map (fun e => match e with | .str x => x | _ => Str.ofString "")) == l0) = _
  rw [e]
theorem headS_get {r : List Str} (h : r ≠ []) : (r.map D.str)[(0 : Int).toNat]? = some (.str (headS r)) := by
  cases r with
  | nil => exact absurd rfl h
  | cons a r => rfl
abbrev c196b (w : World) (A : Around) (L : Addr) (mu : List Addr) (r0 : List Str) (rs : List (List Str)) (k lf : Nat) (nm : Bool) : Cx :=
  ((((c196 w A L mu r0 rs).set (Str.ofString "size") (.int (k : Int))).set (Str.ofString "least") (.int (lf : Int))).set (Str.ofString "sizes") (.rng ((r0.length : Int) - 1) (((max k lf : Nat) : Int) - 1) (-1))).set (Str.ofString "named") (.bool nm)
abbrev c196c (w : World) (A : Around) (L : Addr) (mu : List Addr) (r0 : List Str) (rs : List (List Str)) (k lf : Nat) (nm : Bool) : Cx :=
  ((c196b w A L mu r0 rs k lf nm).set (Str.ofString "rungs") (dRow (rungsF r0 nm (max k lf)))).set (Str.ofString "shared") (.str (Str.ofString "/" ++ Txt.join (Str.ofString "/") ((lowR r0).take k)))
abbrev c196d (w : World) (A : Around) (L : Addr) (mu : List Addr) (r0 : List Str) (rs : List (List Str)) (k lf : Nat) (nm : Bool) : Cx :=
  (c196c w A L mu r0 rs k lf nm).set (Str.ofString "under") (.list (((r0 :: rs).map fun _ => nm && decide ((k : Int) > 0)).map D.bool))
theorem rungs_data (r0 : List Str) (nm : Bool) (m : Nat) : ((rngL ((r0.length : Int) - 1) (-1) (r0.length - m)).filter fun _ => nm).map (rungD r0) = (rungsF r0 nm m).map D.str := by
  cases nm with
  | false => simp [rungsF]
  | true =>
    rw [filter_true]
    unfold rngL rungsF
    rw [if_pos rfl, List.map_map, List.map_map]
    refine List.map_congr_left fun i hi => ?_
    have hi' := List.mem_range.mp hi
    show D.str (rungF r0 ((r0.length : Int) - 1 + (i : Int) * (-1)).toNat) = D.str (rungF r0 (r0.length - 1 - i))
    rw [show ((r0.length : Int) - 1 + (i : Int) * (-1)).toNat = r0.length - 1 - i by omega]
set_option maxHeartbeats 4000000 in
theorem body196 (w : World) (r0 : List Str) (rs : List (List Str)) (hp : DueOk r0 rs) :
    BodyDoes PR w (hd.heap_39 w.params) 30 196 (fdOf w.params 196) (bodyOf w.params 196) (rho1 (Str.ofString "rows") (.list ((r0 :: rs).map dRow))) (dAns (dRungs r0 rs) (dFound r0 rs) (dShared r0 rs) (dUnder r0 rs) (dSame r0 rs)) := by
  refine ⟨?_⟩
  intro A L mu s₀ s Q E room gl st h
  have ok := st.ok
  have hlen := hp.len
  have hlr : ((r0 :: rs).map dRow).length ≤ 100000 := by rw [List.length_map]; omega
  show wpAny _ _ (execs (.Assign [.Name _ _] (.ListComp _ [⟨.Name _ _, _, [], 0⟩] _ _) _ :: .Assign [.Name _ _] _ _ :: .While _ _ [] _ :: .Assign [.Name _ _] _ _ :: .Assign [.Name _ _] _ _ :: .Assign [.Name _ _] _ _ :: .Assign [.Name _ _] (.ListComp _ [⟨.Name _ _, _, [_], 0⟩] _ _) _ :: .Assign [.Name _ _] _ _ :: .Assign [.Name _ _] (.ListComp _ [⟨.Name _ _, _, [], 0⟩] _ _) _ :: .Assign [.Name _ _] (.ListComp _ [⟨.Name _ _, _, [], 0⟩] _ _) _ :: .Return (some _) _ :: []) _) _ _ _
  refine' st.assign gl (d := .list (((r0 :: rs).map lowR).map dRow)) ?a1 (.inr ⟨rfl, rfl⟩) (fun _ _ _ e => by cases e) rfl ?a2
  case a1 =>
    refine' Ev.eq ?a3 ?a4
    case a3 =>
      refine' Ev.comp (d0 := .list ((r0 :: rs).map dRow)) (src := (r0 :: rs).map dRow) (cl := []) (rf := fun _ => none) (fun _ => true) lowDD rfl ?a5 rfl ?a6 rfl ?a7 (Itr.list room.hd) hlr Free.zero ?a8 ?a9 (fun _ => rfl)
      case a5 => decide
      case a6 => decide
      case a7 => walk_at "ev1"
      case a8 => intro C Dd I d hd; exact Tests.nil
      case a9 =>
        intro C Dd I d hd _
        obtain ⟨r, hr, rfl⟩ := List.mem_map.mp hd
        have hsm := (hp.sm r hr).1
        have hlw := hp.low r hr
        have hn := hsm.n
        refine' Ev.eq ?b1 ?b2
        case b1 =>
          refine' Ev.comp (d0 := dRow r) (src := r.map D.str) (cl := []) (rf := fun _ => none) (fun _ => true) lowD rfl ?b3 rfl ?b4 rfl ?b5 (Itr.list room.hd) ?b6 Free.zero ?b7 ?b8 (fun _ => rfl)
          case b3 => decide
          case b4 => decide
          case b5 => walk_at "ev1"
          case b6 => rw [List.length_map]; omega
          case b7 => intro C' Dd' I' d' hd'; exact Tests.nil
          case b8 =>
            intro C' Dd' I' d' hd' _
            obtain ⟨x, hx, rfl⟩ := List.mem_map.mp hd'
            (repeat' walk_at "ev1")
            any_goals exact Bi.lowerD (hlw x hx)
        case b2 => rw [filter_true]; rfl
    case a4 =>
      rw [filter_true, List.map_map, List.map_map]
      refine congrArg D.list (List.map_congr_left fun r _ => ?_)
      show D.list ((r.map D.str).map lowD) = dRow (lowR r)
      unfold lowR
      rw [List.map_map]
      show _ = D.list ((r.map Txt.lower).map D.str)
      rw [List.map_map]; rfl
  intro s1 st1
  have st1' : St (c196 w A L mu r0 rs) s₀ s1 := st1
  obtain ⟨hsm0, hne0⟩ := hp.sm r0 (.head _)
  have hn0 := hsm0.n
  have hpos : 0 < r0.length := List.length_pos_iff.mpr hne0
  have hll : (((r0 :: rs).map lowR).map dRow).length ≤ 100000 := by rw [List.length_map, List.length_map]; omega
  have hl0 : (lowR r0).length = r0.length := by unfold lowR; rw [List.length_map]
  have hi0 : ∀ d : Int, d = 0 → (((r0 :: rs).map lowR).map dRow)[d.toNat]? = some (dRow (lowR r0)) := by rintro d rfl; rfl
  have hlm : ((lowR r0).map D.str).length ≤ 100000 := by rw [List.length_map, hl0]; omega
  refine' st1'.assign (c := c196 w A L mu r0 rs) gl (d := .int ((r0.length - 1 : Nat) : Int)) ?b9 (.inr ⟨rfl, rfl⟩) (fun _ _ _ e => by cases e) rfl ?c1
  case b9 =>
    refine' Ev.eq ?c2 ?c3
    case c2 =>
      (repeat' walk_at "ev1")
      any_goals exact ItemR.list (d := dRow (lowR r0)) (by decide) rfl hll
      any_goals exact Bi.lenL hlm
      any_goals exact BinR.subI
    case c3 => refine congrArg D.int ?_; rw [List.length_map, hl0]; omega
  intro s2 st2
  refine' St.while_ (c := c196 w A L mu r0 rs) (fun k : Nat => (c196 w A L mu r0 rs).set (Str.ofString "size") (.int (k : Int))) id (fun k => k ≤ r0.length - 1 ∧ sizeF ((r0 :: rs).map lowR) (lowR r0) (r0.length - 1) = sizeF ((r0 :: rs).map lowR) (lowR r0) k) (r0.length - 1) (fun i => ⟨rfl, rfl, rfl⟩) st2 ⟨Nat.le_refl _, rfl⟩ ?turn
  intro k hk
  refine ⟨((r0 :: rs).map lowR).any (badAt (lowR r0) k), ?_, ?_, ?_⟩
  · refine' Tr.eq ?d1 ?d2
    case d1 =>
      refine' Tr.cmp ?d3 ?d4 ?d5 ?d6
      case d3 =>
        refine' Ev.comp (d0 := .list (((r0 :: rs).map lowR).map dRow)) (src := ((r0 :: rs).map lowR).map dRow) (cl := [(Str.ofString "size", L + 3), (Str.ofString "low", L + 2)]) (rf := rho2 (Str.ofString "size") (.int (k : Int)) (Str.ofString "low") (.list (((r0 :: rs).map lowR).map dRow))) (badD (lowR r0) k) id
          rfl ?d7 rfl ?d8 rfl ?d9 (Itr.list room.hd) hll ?e1 ?e2 ?e3 (fun _ => rfl)
        case d7 => decide
        case d8 => decide
        case d9 => walk_at "ev1"
        case e1 => exact Free.two rfl (fun _ => .inl rfl) (.inl rfl) rfl rfl (fun _ => .inl rfl) (.inl rfl) rfl
        case e2 =>
          intro C Dd I d hd
          obtain ⟨r, hr, rfl⟩ := List.mem_map.mp hd
          obtain ⟨r', hr', rfl⟩ := List.mem_map.mp hr
          have hrn : ((lowR r').map D.str).length ≤ 100000 := by
            have := (hp.sm r' hr').1.n
            unfold lowR; rw [List.length_map, List.length_map]; omega
          generalize lowR r' = r at *
          rw [badD_row]
          refine' Tests.one ?e4
          refine' Tr.or2 ?e5 (fun _ => ?e6)
          case e5 =>
            refine' Tr.eq ?e7 ?e8
            case e7 => (repeat' walk_at "ev1"); (any_goals exact Bi.lenL hrn); (any_goals exact CmpR.leI)
            case e8 => rw [List.length_map]
          case e6 =>
            refine' Tr.cmp (d1 := dRow (r.take k)) (d2 := dRow ((lowR r0).take k)) ?e9 ?f1 (CmpR.neLS (room.le (by omega))) rfl
            case e9 =>
              refine' Ev.eq ?f2 ?f3
              case f2 => (repeat' walk_at "ev1"); (any_goals exact SliceR.list (by decide) hrn)
              case f3 => rw [pickD_to, ← List.map_take]
            case f1 =>
              refine' Ev.eq ?f4 ?f5
              case f4 => (repeat' walk_at "ev1"); (any_goals exact ItemR.list (d := dRow (lowR r0)) (by decide) rfl hll); (any_goals exact SliceR.list (by decide) hlm)
              case f5 => rw [pickD_to, ← List.map_take]
        case e3 =>
          intro C Dd I d hd _
          walk_at "ev1"
      case d4 => exact Ev.list Evs.nil (by decide)
      case d5 => exact CmpR.neNil (room.le (by omega))
      case d6 => rfl
    case d2 => exact any_rowD _ _ _
  · intro hb s3 E3 st3
    obtain ⟨j, rfl⟩ : ∃ j, k = j + 1 := by
      cases k with
      | zero => rw [bad_zero _ _ (fun r hr => by obtain ⟨r', hr', rfl⟩ := List.mem_map.mp hr; have := (hp.sm r' hr').2; unfold lowR; simpa using this)] at hb; cases hb
      | succ j => exact ⟨j, rfl⟩
    show wpAny _ _ (execs (.Assign [.Name _ _] _ _ :: []) _) _ _ _
    refine' st3.assign gl (d := .int (j : Int)) ?g1 (.inr ⟨rfl, rfl⟩) (fun _ _ _ e => by cases e) rfl ?g2
    case g1 =>
      refine' Ev.eq ?g3 ?g4
      case g3 => (repeat' walk_at "ev1"); (any_goals exact BinR.subI)
      case g4 => refine congrArg D.int ?_; omega
    intro s4 st4
    refine wpAny_execs_nil ⟨j, Nat.lt_succ_self _, ⟨by omega, ?_⟩, ?_⟩
    · rw [hk.2, sizeF_go _ _ _ hb]
    · refine st4.weak _ ?_
      intro z e hz
      have hz' : (if z = Str.ofString "size" then some (D.int (j : Int)) else (c196 w A L mu r0 rs).rho z) = some e := hz
      show (if z = Str.ofString "size" then some (D.int (j : Int)) else (if z = Str.ofString "size" then _ else (c196 w A L mu r0 rs).rho z)) = some e
      by_cases h1 : z = Str.ofString "size"
      · rw [if_pos h1] at hz' ⊢; exact hz'
      · rw [if_neg h1] at hz' ⊢; rw [if_neg h1]; exact hz'
  · intro hb s3 st3
    have hsz : dSize r0 rs = k := by unfold dSize; rw [hk.2, sizeF_stop _ _ _ hb]
    have hkle := hk.1
    have hfin : h = h := rfl
    unfold dFound dRungs dShared dUnder at h
    rw [hsz] at h
    clear hfin
    have hlf : leastF r0 ≤ 2 := by unfold leastF; split <;> omega
    have hs1 : (Str.ofString ".").length = 1 := by decide +kernel
    have hs2 : (Str.ofString "/").length = 1 := by decide +kernel
    have hll2 : (r0.map D.str).length ≤ 100000 := by rw [List.length_map]; omega
    have hnel : lowR r0 ≠ [] := by unfold lowR; simpa using hne0
    refine' st3.assign gl (d := .int (leastF r0 : Int)) ?h1 (.inl rfl) (fun _ _ _ e => by cases e) rfl ?h2
    case h1 =>
      refine' Ev.ifexp (b := ((headS r0).cps.toList == (Str.ofString "local").cps.toList)) ?h3 (fun hc => ?h4) (fun hc => ?h5)
      case h3 =>
        (repeat' walk_at "ev1")
        any_goals exact ItemR.list (d := dRow r0) (by decide) rfl hlr
        any_goals exact ItemR.list (by decide) (headS_get hne0) hll2
        any_goals exact CmpR.eqS
      case h4 => refine' Ev.eq Ev.int ?h6; unfold leastF; rw [if_pos hc]; rfl
      case h5 => refine' Ev.eq Ev.int ?h7; unfold leastF; rw [hc]; rfl
    intro s4 st4
    generalize leastF r0 = lf at *
    refine' st4.assign gl (d := .rng ((r0.length : Int) - 1) (((max k lf : Nat) : Int) - 1) (-1)) ?h8 (.inl rfl) (fun _ _ _ e => by cases e) rfl ?h9
    case h8 =>
      refine' Ev.eq ?i1 ?i2
      case i1 =>
        (repeat' walk_at "ev1")
        any_goals exact ItemR.list (d := dRow (lowR r0)) (by decide) rfl hll
        any_goals exact Bi.lenL hlm
        any_goals exact Bi.max2 room.hd
        any_goals exact BinR.subI
        any_goals exact Bi.range3 (by decide) (PyProof.noPylong_small (by decide))
      case i2 =>
        rw [List.length_map, hl0]
        have e : (if (lf : Int) > (k : Int) then (lf : Int) else (k : Int)) = ((max k lf : Nat) : Int) := by split <;> omega
        rw [e]
    intro s5 st5
    refine' st5.assign gl (d := .bool (namedF (lowR r0))) ?i3 (.inr ⟨rfl, rfl⟩) (fun _ _ _ e => by cases e) rfl ?i4
    case i3 =>
      refine' Ev.cmp ?i5 ?i6 CmpR.neS rfl
      case i5 =>
        (repeat' walk_at "ev1")
        any_goals exact ItemR.list (d := dRow (lowR r0)) (by decide) rfl hll
        any_goals exact ItemR.list (by decide) (headS_get hnel) hlm
      case i6 => walk_at "ev1"
    intro s6 st6
    generalize hnm : namedF (lowR r0) = nm at *
    have st6' : St (c196b w A L mu r0 rs k lf nm) s₀ s6 := st6
    refine' st6'.assignComp (c := c196b w A L mu r0 rs k lf nm) (d0 := .rng ((r0.length : Int) - 1) (((max k lf : Nat) : Int) - 1) (-1)) (src := rngL ((r0.length : Int) - 1) (-1) (r0.length - max k lf)) (cl := [(Str.ofString "rows", L + 1), (Str.ofString "named", L + 4)]) (rf := rho2 (Str.ofString "rows") (.list ((r0 :: rs).map dRow)) (Str.ofString "named") (.bool nm)) (fun _ => nm) (rungD r0)
      gl rfl rfl (fun _ _ _ e => by cases e) rfl ?j1 rfl ?j2 rfl ?j3 (Itr.rng room.hd (small_down (by omega) (by omega) (by omega) (by omega)) (rangeSize_down _ _)) ?j4 ?j5 ?j6 ?j7 (fun _ => rfl) ?j8
    case j1 => decide
    case j2 => decide
    case j3 => walk_at "ev1"
    case j4 => unfold rngL; rw [List.length_map, List.length_range]; omega
    case j5 => exact Free.two rfl (fun _ => .inl rfl) (.inl rfl) rfl rfl (fun _ => .inl rfl) (.inl rfl) rfl
    case j6 =>
      intro C Dd I d hd
      refine' Tests.one ?j9
      refine' Tr.val ?k1 ?k2
      case k2 => intro _; rfl
      case k1 => walk_at "ev1"
    case j7 =>
      intro C Dd I d hd _
      obtain ⟨i, hi, rfl⟩ := List.mem_map.mp hd
      have hi' := List.mem_range.mp hi
      have hik : (r0.length : Int) - 1 + (i : Int) * (-1) = ((r0.length - 1 - i : Nat) : Int) := by omega
      rw [hik]
      generalize r0.length - 1 - i = v
      have hsv := (hsm0.take v).rev
      have hjl := hsv.joinLen (sep := Str.ofString ".") (by omega)
      refine' Ev.eq ?k3 ?k4
      case k3 =>
        (repeat' walk_at "ev1")
        any_goals exact ItemR.list (d := dRow r0) (by decide) rfl hlr
        any_goals exact SliceR.list (by decide) hll2
        any_goals exact (by decide : (-1 : Int) ≠ 0)
        any_goals exact Bi.joinL (xs := (r0.take v).reverse) (by rw [pickD_to, pickD_rev, ← List.map_take, List.map_reverse]) (hsv.joinOk (by omega))
        any_goals exact BinR.addS (by omega)
        any_goals exact (by rw [pickD_to, ← List.map_take, List.length_map, List.length_take]; omega)
      case k4 => rfl
    case j8 =>
    intro s7 st7
    rw [rungs_data] at st7
    have hsk := (show Sm (lowR r0) from ⟨by rw [hl0]; exact hn0, fun t ht => by obtain ⟨x, hx, rfl⟩ := List.mem_map.mp ht; exact hp.low r0 (.head _) x hx⟩).take k
    have hjk := hsk.joinLen (sep := Str.ofString "/") (by omega)
    refine' st7.assign gl (d := .str (Str.ofString "/" ++ Txt.join (Str.ofString "/") ((lowR r0).take k))) ?k5 (.inl rfl) (fun _ _ _ e => by cases e) rfl ?k6
    case k5 =>
      (repeat' walk_at "ev1")
      any_goals exact ItemR.list (d := dRow (lowR r0)) (by decide) rfl hll
      any_goals exact SliceR.list (by decide) hlm
      any_goals exact Bi.joinL (xs := (lowR r0).take k) (by rw [pickD_to, ← List.map_take]) (hsk.joinOk (by omega))
      any_goals exact BinR.addS (by omega)
    intro s8 st8
    have st8' : St (c196c w A L mu r0 rs k lf nm) s₀ s8 := st8
    refine' st8'.assignComp (c := c196c w A L mu r0 rs k lf nm) (d0 := .list (((r0 :: rs).map lowR).map dRow)) (src := ((r0 :: rs).map lowR).map dRow) (cl := [(Str.ofString "size", L + 3), (Str.ofString "named", L + 4)]) (rf := rho2 (Str.ofString "size") (.int (k : Int)) (Str.ofString "named") (.bool nm)) (fun _ => true) (fun _ => .bool (nm && decide ((k : Int) > 0)))
      gl rfl rfl (fun _ _ _ e => by cases e) rfl ?l1 rfl ?l2 rfl ?l3 (Itr.list room.hd) hll ?l4 ?l5 ?l6 (fun _ => rfl) ?l7
    case l1 => decide
    case l2 => decide
    case l3 => walk_at "ev1"
    case l4 => exact Free.two rfl (fun _ => .inl rfl) (.inl rfl) rfl rfl (fun _ => .inl rfl) (.inl rfl) rfl
    case l5 => intro C Dd I d hd; exact Tests.nil
    case l6 =>
      intro C Dd I d hd _
      refine' Ev.and2 ?l8 (fun _ => ?l9)
      case l8 => walk_at "ev1"
      case l9 => (repeat' walk_at "ev1"); (any_goals exact CmpR.gtI)
    case l7 =>
    intro s9 st9
    have e9 : (((((r0 :: rs).map lowR).map dRow).filter fun _ => true).map fun _ => D.bool (nm && decide ((k : Int) > 0))) = (((r0 :: rs).map fun _ => nm && decide ((k : Int) > 0)).map D.bool) := by
      rw [filter_true, List.map_map, List.map_map, List.map_map]; rfl
    rw [e9] at st9
    have st9' : St (c196d w A L mu r0 rs k lf nm) s₀ s9 := st9
    refine' st9'.assignComp (c := c196d w A L mu r0 rs k lf nm) (d0 := .list (((r0 :: rs).map lowR).map dRow)) (src := ((r0 :: rs).map lowR).map dRow) (cl := [(Str.ofString "low", L + 2)]) (rf := rho1 (Str.ofString "low") (.list (((r0 :: rs).map lowR).map dRow))) (fun _ => true) (sameD (lowR r0))
      gl rfl rfl (fun _ _ _ e => by cases e) rfl ?m1 rfl ?m2 rfl ?m3 (Itr.list room.hd) hll ?m4 ?m5 ?m6 (fun _ => rfl) ?m7
    case m1 => decide
    case m2 => decide
    case m3 => walk_at "ev1"
    case m4 => exact Free.one rfl (fun _ => .inl rfl) (.inl rfl) rfl
    case m5 => intro C Dd I d hd; exact Tests.nil
    case m6 =>
      intro C Dd I d hd _
      obtain ⟨r, hr, rfl⟩ := List.mem_map.mp hd
      rw [sameD_row]
      refine' Ev.cmp (d1 := dRow r) (d2 := dRow (lowR r0)) ?m8 ?m9 (CmpR.eqLS (room.le (by omega))) rfl
      case m8 => walk_at "ev1"
      case m9 => (repeat' walk_at "ev1"); (any_goals exact ItemR.list (d := dRow (lowR r0)) (by decide) rfl hll)
    case m7 =>
    intro s10 st10
    have e10 : (((((r0 :: rs).map lowR).map dRow).filter fun _ => true).map (sameD (lowR r0))) = (dSame r0 rs).map D.bool := by
      rw [filter_true]; unfold dSame
      rw [List.map_map, List.map_map, List.map_map]
      refine List.map_congr_left fun r _ => ?_
      exact sameD_row (lowR r0) (lowR r)
    rw [e10] at st10
    refine' st10.ret (d := dAns (rungsF r0 nm (max k lf)) ((rungsF r0 nm (max k lf)).length != 0 && decide ((k : Int) ≥ (lf : Int))) (Str.ofString "/" ++ Txt.join (Str.ofString "/") ((lowR r0).take k)) ((r0 :: rs).map fun _ => nm && decide ((k : Int) > 0)) (dSame r0 rs)) ?n1 (fin_of h mu_r rfl)
    refine' Ev.tuple ?n2 (by show 5 ≤ 100000; omega)
    refine' Evs.cons ?n3 (Evs.cons ?n4 (Evs.cons ?n5 (Evs.cons ?n6 (Evs.cons ?n7 Evs.nil rfl) rfl) rfl) rfl) rfl
    case n3 => walk_at "ev1"
    case n5 => walk_at "ev1"
    case n6 => walk_at "ev1"
    case n7 => walk_at "ev1"
    case n4 =>
      refine' Ev.and2 ?n8 (fun _ => ?n9)
      case n8 =>
        refine' Ev.eq (Ev.cmp (d1 := dRow (rungsF r0 nm (max k lf))) (d2 := .list []) ?o1 (Ev.list Evs.nil (by decide)) (CmpR.neNil (room.le (by omega))) rfl) ?o2
        case o1 => walk_at "ev1"
        case o2 => rw [List.length_map]
      case n9 => (repeat' walk_at "ev1"); (any_goals exact CmpR.geI)
theorem fn196 (w : World) (r0 : List Str) (rs : List (List Str)) (hp : DueOk r0 rs) : Fn PR w (hd.heap_39 w.params) 31 196 [.list ((r0 :: rs).map dRow)] (dAns (dRungs r0 rs) (dFound r0 rs) (dShared r0 rs) (dUnder r0 rs) (dSame r0 rs)) := by
  have hb := body196 w r0 rs hp
  generalize dAns (dRungs r0 rs) (dFound r0 rs) (dShared r0 rs) (dUnder r0 rs) (dSame r0 rs) = y at hb ⊢
  refine Fn.intro1 (n := Str.ofString "rows") (at196 w.params) (bind196 w.params) ?_ (.inr ⟨rfl, fun _ => rfl⟩) hb
  intro L; show [Str.ofString "named", Str.ofString "size", Str.ofString "low", Str.ofString "rows"].Nodup; decide
end
end Mine
end PdXPart
section PdZ1Part
open PySem PySem.W PyProof.Rows
open PySem.Sre (isDigit)
namespace Mine
/-! the pattern on texts whose last label is known -/
theorem anyHit_iff (text : Array Nat) : ∀ (n p : Nat), anyHit text n p = true ↔ ∃ q, p ≤ q ∧ q < p + n ∧ hitAt text q = true
  | 0, p => by simp [anyHit]; intro q h1 h2; omega
  | n + 1, p => by
    unfold anyHit
    rw [Bool.or_eq_true, anyHit_iff text n (p + 1)]
    constructor
    · rintro (h | ⟨q, h1, h2, h3⟩)
      · exact ⟨p, Nat.le_refl _, by omega, h⟩
      · exact ⟨q, by omega, by omega, h3⟩
    · rintro ⟨q, h1, h2, h3⟩
      by_cases e : q = p
      · subst e; exact .inl h3
      · exact .inr ⟨q, by omega, by omega, h3⟩
theorem dr_list (text : Array Nat) (h0 : isDigit 0 = false) : ∀ (n p : Nat), dr text n p = (((text.toList.drop p).take n).takeWhile isDigit).length
  | 0, p => by simp [dr]
  | n + 1, p => by
    have ih := dr_list text h0 n (p + 1)
    unfold dr
    by_cases hp : p < text.size
    · have e : text.toList.drop p = text.getD p 0 :: text.toList.drop (p + 1) := by
        have hp' : p < text.toList.length := by simpa using hp
        rw [List.drop_eq_getElem_cons hp']
        simp [hp]
      rw [e, List.take_succ_cons, List.takeWhile_cons, ih]
      cases hd : isDigit (text.getD p 0) <;> simp
    · have e1 : text.getD p 0 = 0 := by simp [Array.getD, hp]
      have e2 : text.toList.drop p = [] := List.drop_of_length_le (by simpa using hp)
      rw [e1, h0, e2]; simp
theorem d0 : isDigit 0 = false := by decide +kernel
theorem d46 : isDigit 46 = false := by decide +kernel
theorem tw_le (l : List Nat) (f : Nat → Bool) : (l.takeWhile f).length ≤ l.length := (List.takeWhile_prefix f).length_le
theorem tw_all (l : List Nat) (f : Nat → Bool) : (l.takeWhile f).length = l.length ↔ l.all f = true := by
  induction l with
  | nil => simp
  | cons a l ih =>
    rw [List.takeWhile_cons, List.all_cons]
    cases hf : f a with
    | true => simp [ih]
    | false => simp
theorem hit_iff (x : Str) (hs : x.length ≤ 100000) (q : Nat) : hitAt x.cps q = true ↔ (cl x)[q]? = some 46 ∧ 0 < (((cl x).drop (q + 1)).takeWhile isDigit).length ∧
    ((((cl x).drop (q + 1)).takeWhile isDigit).length = ((cl x).drop (q + 1)).length ∨ ((((cl x).drop (q + 1)).takeWhile isDigit).length + 1 = ((cl x).drop (q + 1)).length ∧ ((cl x).drop (q + 1))[(((cl x).drop (q + 1)).takeWhile isDigit).length]? = some 10)) := by
  have hsz : x.cps.size = (cl x).length := by simp [cl]
  have hl : (cl x).length ≤ 100000 := by rw [cl_len]; exact hs
  have hget : ∀ i, x.cps.getD i 0 = ((cl x)[i]?).getD 0 := by intro i; simp [cl]
  have hm : dr x.cps (min 4294967295 (x.cps.size - (q + 1))) (q + 1) = (((cl x).drop (q + 1)).takeWhile isDigit).length := by
    rw [dr_list x.cps d0]
    have e : ((x.cps.toList.drop (q + 1)).take (min 4294967295 (x.cps.size - (q + 1)))) = (cl x).drop (q + 1) := by
      show ((cl x).drop (q + 1)).take _ = _
      refine List.take_of_length_le ?_
      rw [List.length_drop, hsz]; omega
    rw [e]
  unfold hitAt
  rw [hm]
  generalize hl2 : (cl x).drop (q + 1) = l
  have hll : l.length = (cl x).length - (q + 1) := by rw [← hl2, List.length_drop]
  have hle := tw_le l isDigit
  unfold endAt
  have hgl : ∀ m, ((cl x)[q + 1 + m]?) = l[m]? := by intro m; rw [← hl2, List.getElem?_drop]
  simp only [Bool.and_eq_true, Bool.or_eq_true, decide_eq_true_eq, beq_iff_eq, hsz, hget, hgl]
  constructor
  · rintro ⟨⟨⟨h1, h2⟩, h3⟩, h4⟩
    have e1 : (cl x)[q]? = some 46 := by
      rw [List.getElem?_eq_getElem h1] at h2 ⊢
      simpa using h2
    refine ⟨e1, h3, ?_⟩
    rcases h4 with h4 | ⟨h4, h5⟩
    · left; omega
    · right
      refine ⟨by omega, ?_⟩
      have hlt : (l.takeWhile isDigit).length < l.length := by omega
      rw [List.getElem?_eq_getElem hlt] at h5 ⊢
      simpa using h5
  · rintro ⟨h1, h2, h3⟩
    have hq : q < (cl x).length := (List.getElem?_eq_some_iff.mp h1).1
    refine ⟨⟨⟨hq, by rw [h1]; rfl⟩, h2⟩, ?_⟩
    rcases h3 with h3 | ⟨h3, h4⟩
    · left; omega
    · right; exact ⟨by omega, by rw [h4]; rfl⟩
theorem ipv4_no {x : Str} (hs : x.length ≤ 100000) (h : 46 ∉ cl x) : ipv4 x = false := by
  rw [← Bool.not_eq_true]
  intro e
  obtain ⟨q, _, _, hq⟩ := (anyHit_iff _ _ _).mp e
  exact h (List.mem_of_getElem? ((hit_iff x hs q).mp hq).1)
theorem tw_stop {f : Nat → Bool} {b : Nat} (hb : f b = false) : ∀ (u v : List Nat), ((u ++ b :: v).takeWhile f).length ≤ u.length
  | [], v => by simp [hb]
  | a :: u, v => by
    rw [List.cons_append, List.takeWhile_cons]
    cases f a with
    | true => simpa using tw_stop hb u v
    | false => simp
theorem ipv4_last {x : Str} (hs : x.length ≤ 100000) {p l : List Nat} (hx : cl x = p ++ 46 :: l) (h46 : 46 ∉ l) (h10 : 10 ∉ l) (hl : l ≠ []) : ipv4 x = l.all isDigit := by
  have hpl : (cl x).drop (p.length + 1) = l := by rw [hx, List.drop_append]; simp
  rw [Bool.eq_iff_iff]
  constructor
  · intro e
    obtain ⟨q, _, _, hq⟩ := (anyHit_iff _ _ _).mp e
    obtain ⟨h1, h2, h3⟩ := (hit_iff x hs q).mp hq
    have hqp : q ≤ p.length := by
      refine Nat.le_of_not_lt fun hlt => h46 ?_
      rw [hx, List.getElem?_append_right (by omega)] at h1
      obtain ⟨k, hk⟩ : ∃ k, q - p.length = k + 1 := ⟨q - p.length - 1, by omega⟩
      rw [hk, List.getElem?_cons_succ] at h1
      exact List.mem_of_getElem? h1
    by_cases hq2 : q = p.length
    · subst hq2
      rw [hpl] at h2 h3
      rcases h3 with h3 | ⟨_, h3⟩
      · exact (tw_all _ _).mp h3
      · exact absurd (List.mem_of_getElem? h3) h10
    · exfalso
      have hlt : q + 1 ≤ p.length := by omega
      have e2 : (cl x).drop (q + 1) = p.drop (q + 1) ++ 46 :: l := by rw [hx, List.drop_append_of_le_length hlt]
      rw [e2] at h3
      have h4 := tw_stop d46 (p.drop (q + 1)) l
      have hpos := List.length_pos_iff.mpr hl
      rcases h3 with h3 | ⟨h3, _⟩
      · rw [h3, List.length_append, List.length_cons] at h4; omega
      · rw [List.length_append, List.length_cons] at h3; omega
  · intro e
    refine (anyHit_iff _ _ _).mpr ⟨p.length, Nat.zero_le _, ?_, (hit_iff x hs _).mpr ⟨?_, ?_, ?_⟩⟩
    · have : x.cps.size = (cl x).length := by simp [cl]
      rw [this, hx]; simp; omega
    · rw [hx]; simp
    · rw [hpl, (tw_all _ _).mpr e]; exact List.length_pos_iff.mpr hl
    · rw [hpl]; exact .inl ((tw_all _ _).mpr e)
end Mine
end PdZ1Part
section PdZ2Part
open PySem PySem.W PyProof.Rows
open PySem.Sre (isDigit)
namespace Mine
/-! labels, rows, hosts -/
def base (l : List Nat) : Bool := l != [] && (l.all (fun c => decide (c < 128) && (c != 46 && (c != 47 && c != 10))) && (decide (l.length ≤ 8) && (l.all isDigit == (l == [55, 55]))))
def good (x : Str) : Bool := base (cl x) && base ((cl x).map lo1)
theorem words_good : ∀ x ∈ wordsL, good x = true := by decide +kernel
theorem lo1_lo1 (c : Nat) : lo1 (lo1 c) = lo1 c := by unfold lo1; (repeat' split) <;> omega
theorem lo1_up1 (c : Nat) : lo1 (up1 c) = lo1 c := by unfold lo1 up1; (repeat' split) <;> omega
theorem up1_lt {c : Nat} (h : c < 128) : up1 c < 128 := by unfold up1; split <;> omega
structure Gd (x : Str) : Prop where
  ne : cl x ≠ []
  asc : ∀ c ∈ cl x, c < 128
  n46 : 46 ∉ cl x
  n47 : 47 ∉ cl x
  n10 : 10 ∉ cl x
  len : (cl x).length ≤ 8
  dig : (cl x).all isDigit = (cl x == [55, 55])
theorem gd_of {x : Str} (h : base (cl x) = true) : Gd x := by
  unfold base at h
  simp only [Bool.and_eq_true, bne_iff_ne, ne_eq, List.all_eq_true, decide_eq_true_eq, beq_iff_eq] at h
  obtain ⟨h1, h2, h3, h4⟩ := h
  exact ⟨h1, fun c hc => (h2 c hc).1, fun hc => (h2 _ hc).2.1 rfl, fun hc => (h2 _ hc).2.2.1 rfl, fun hc => (h2 _ hc).2.2.2 rfl, h3, h4⟩
theorem Gd.of {x : Str} (h : good x = true) : Gd x := gd_of (by unfold good at h; rw [Bool.and_eq_true] at h; exact h.1)
theorem low_cl {x : Str} (h : ∀ c ∈ cl x, c < 128) : cl (Txt.lower x) = (cl x).map lo1 := by
  rw [lower_ascii h]; simp [cl]
theorem up_cl {x : Str} (h : ∀ c ∈ cl x, c < 128) : cl (Txt.upper x) = (cl x).map up1 := by
  rw [upper_ascii h]; simp [cl]
theorem good_low {x : Str} (h : good x = true) : good (Txt.lower x) = true := by
  have hg := Gd.of h
  unfold good at h ⊢
  rw [Bool.and_eq_true] at h ⊢
  rw [low_cl hg.asc]
  refine ⟨h.2, ?_⟩
  rw [List.map_map]
  have e : lo1 ∘ lo1 = lo1 := funext lo1_lo1
  rw [e]; exact h.2
structure Rw (r : List Str) : Prop where
  ne : r ≠ []
  n : r.length ≤ 8
  g : ∀ x ∈ r, good x = true
theorem Rw.low {r : List Str} (h : Rw r) : Rw (lowR r) := ⟨by unfold lowR; simpa using h.ne, by unfold lowR; rw [List.length_map]; exact h.n, fun x hx => by obtain ⟨y, hy, rfl⟩ := List.mem_map.mp hx; exact good_low (h.g y hy)⟩
theorem Rw.take {r : List Str} (h : Rw r) {j : Nat} (hj : 1 ≤ j) : Rw (r.take j) := ⟨by
    obtain ⟨a, t, rfl⟩ := List.exists_cons_of_ne_nil h.ne
    obtain ⟨j, rfl⟩ : ∃ i, j = i + 1 := ⟨j - 1, by omega⟩
    simp, Nat.le_trans (List.length_take_le' _ _) h.n, fun x hx => h.g x (List.mem_of_mem_take hx)⟩
theorem Rw.sm {r : List Str} (h : Rw r) : Sm r := ⟨h.n, fun t ht => by have := (Gd.of (h.g t ht)).len; rw [cl_len] at this; exact this⟩
def hostOf (r : List Str) : Str := Txt.join (Str.ofString ".") r.reverse
theorem host_cl (r : List Str) : cl (hostOf r) = jl 46 (r.reverse.map cl) := by
  unfold hostOf; rw [txt_join, ofs_dot, cl_join]
theorem jl_snoc {c : Nat} {q : List Nat} : ∀ {ps : List (List Nat)}, ps ≠ [] → jl c (ps ++ [q]) = jl c ps ++ c :: q
  | [], h => absurd rfl h
  | [p], _ => rfl
  | p :: p' :: ps, _ => by
    have ih := jl_snoc (c := c) (q := q) (ps := p' :: ps) (by simp)
    show p ++ c :: jl c ((p' :: ps) ++ [q]) = _
    rw [ih]
    show _ = (p ++ c :: jl c (p' :: ps)) ++ c :: q
    simp
theorem jl_map (c : Nat) (f : Nat → Nat) (hf : f c = c) : ∀ ps : List (List Nat), (jl c ps).map f = jl c (ps.map (List.map f))
  | [] => rfl
  | [p] => rfl
  | p :: p' :: ps => by
    have ih := jl_map c f hf (p' :: ps)
    show (p ++ c :: jl c (p' :: ps)).map f = p.map f ++ c :: jl c ((p' :: ps).map (List.map f))
    rw [List.map_append, List.map_cons, hf, ih]
theorem jl_all {c : Nat} {P : Nat → Prop} (hc : P c) : ∀ {ps : List (List Nat)}, (∀ p ∈ ps, ∀ a ∈ p, P a) → ∀ a ∈ jl c ps, P a
  | [], _, a, h => by cases h
  | [p], hp, a, h => hp p (.head _) a h
  | p :: p' :: ps, hp, a, h => by
    have h' : a ∈ p ++ c :: jl c (p' :: ps) := h
    rcases List.mem_append.mp h' with h | h
    · exact hp p (.head _) a h
    · rcases List.mem_cons.mp h with rfl | h
      · exact hc
      · exact jl_all hc (fun q hq => hp q (.tail _ hq)) a h
theorem host_asc {r : List Str} (h : ∀ x ∈ r, good x = true) : ∀ c ∈ cl (hostOf r), c < 128 := by
  rw [host_cl]
  refine jl_all (P := fun c => c < 128) (by decide) fun p hp => ?_
  obtain ⟨x, hx, rfl⟩ := List.mem_map.mp hp
  exact (Gd.of (h x (List.mem_reverse.mp hx))).asc
theorem low_map {r : List Str} (h : ∀ x ∈ r, good x = true) : (r.map cl).map (List.map lo1) = (lowR r).map cl := by
  unfold lowR
  rw [List.map_map, List.map_map]
  exact List.map_congr_left fun x hx => (low_cl (Gd.of (h x hx)).asc).symm
theorem low_host {r : List Str} (h : ∀ x ∈ r, good x = true) : Txt.lower (hostOf r) = hostOf (lowR r) := by
  apply cl_inj
  rw [low_cl (host_asc h), host_cl, host_cl, jl_map 46 lo1 (by decide), low_map fun x hx => h x (List.mem_reverse.mp hx)]
  unfold lowR; rw [List.map_reverse]
theorem up_host_asc {r : List Str} (h : ∀ x ∈ r, good x = true) : ∀ c ∈ cl (Txt.upper (hostOf r)), c < 128 := by
  rw [up_cl (host_asc h)]
  intro c hc
  obtain ⟨d, hd, rfl⟩ := List.mem_map.mp hc
  exact up1_lt (host_asc h d hd)
theorem low_up_host {r : List Str} (h : ∀ x ∈ r, good x = true) : Txt.lower (Txt.upper (hostOf r)) = hostOf (lowR r) := by
  rw [← low_host h]
  apply cl_inj
  rw [low_cl (up_host_asc h), low_cl (host_asc h), up_cl (host_asc h), List.map_map]
  have e : lo1 ∘ up1 = lo1 := funext lo1_up1
  rw [e]
theorem lowR_low {r : List Str} (h : ∀ x ∈ r, good x = true) : lowR (lowR r) = lowR r := by
  unfold lowR
  rw [List.map_map]
  refine List.map_congr_left fun x hx => ?_
  apply cl_inj
  show cl (Txt.lower (Txt.lower x)) = _
  rw [low_cl (Gd.of (good_low (h x hx))).asc, low_cl (Gd.of (h x hx)).asc, List.map_map]
  have e : lo1 ∘ lo1 = lo1 := funext lo1_lo1
  rw [e]
end Mine
end PdZ2Part
section PdZ3Part
open PySem PySem.W PyProof.Rows
open PySem.Sre (isDigit)
namespace Mine
theorem host_one (a : Str) : cl (hostOf [a]) = cl a := by rw [host_cl]; rfl
theorem host_tail (a : Str) {t : List Str} (ht : t ≠ []) : cl (hostOf (a :: t)) = jl 46 (t.reverse.map cl) ++ 46 :: cl a := by
  rw [host_cl, List.reverse_cons, List.map_append]
  exact jl_snoc (by simpa using ht)
theorem host_front {w : List Str} (z : Str) (hw : w ≠ []) : cl (hostOf (w ++ [z])) = cl z ++ 46 :: cl (hostOf w) := by
  rw [host_cl, host_cl, List.reverse_append]
  obtain ⟨b, ys, hy⟩ := List.exists_cons_of_ne_nil (show w.reverse ≠ [] by simpa using hw)
  rw [hy]; rfl
theorem host_head {r : List Str} (h : Rw r) : ∃ c l, cl (hostOf r) = c :: l ∧ c ≠ 46 := by
  obtain ⟨z, ys, hy⟩ := List.exists_cons_of_ne_nil (show r.reverse ≠ [] by simpa using h.ne)
  have hg := Gd.of (h.g z (List.mem_reverse.mp (by rw [hy]; exact .head _)))
  obtain ⟨c, l, hc⟩ := List.exists_cons_of_ne_nil hg.ne
  have hn : c ≠ 46 := fun e => hg.n46 (by rw [hc, e]; exact .head _)
  rw [host_cl, hy, List.map_cons, hc]
  cases ys with
  | nil => exact ⟨c, l, rfl, hn⟩
  | cons y ys => exact ⟨c, l ++ 46 :: jl 46 ((y :: ys).map cl), rfl, hn⟩
theorem host_last {r : List Str} (h : Rw r) : ∃ l c, cl (hostOf r) = l ++ [c] ∧ c ≠ 46 := by
  obtain ⟨a, t, rfl⟩ := List.exists_cons_of_ne_nil h.ne
  have hg := Gd.of (h.g a (.head _))
  obtain ⟨l, c, hc⟩ : ∃ l c, cl a = l ++ [c] := ⟨_, _, (List.dropLast_concat_getLast hg.ne).symm⟩
  have hn : c ≠ 46 := fun e => hg.n46 (by rw [hc, e]; simp)
  by_cases ht : t = []
  · subst ht; exact ⟨l, c, by rw [host_one, hc], hn⟩
  · exact ⟨jl 46 (t.reverse.map cl) ++ 46 :: l, c, by rw [host_tail a ht, hc]; simp, hn⟩
theorem host_len {r : List Str} (h : Sm r) : (hostOf r).length ≤ 72 := h.rev.joinLen (by decide +kernel)
theorem ipv4_host {a : Str} {t : List Str} (h : Rw (a :: t)) : ipv4 (hostOf (a :: t)) = (decide (t ≠ []) && (cl a == [55, 55])) := by
  have hg := Gd.of (h.g a (.head _))
  have hs := host_len h.sm
  by_cases ht : t = []
  · subst ht
    rw [ipv4_no (by omega) (by rw [host_one]; exact hg.n46)]; rfl
  · rw [ipv4_last (by omega) (host_tail a ht) hg.n46 hg.n10 hg.ne, hg.dig, decide_eq_true ht, Bool.true_and]
theorem map_lo1_77 (l : List Nat) : (l.map lo1 == [55, 55]) = (l == [55, 55]) := by
  have k : ∀ c, lo1 c = 55 ↔ c = 55 := by intro c; unfold lo1; split <;> omega
  rw [Bool.eq_iff_iff, beq_iff_eq, beq_iff_eq]
  constructor
  · intro h
    match l, h with
    | [a, b], h =>
      injection h with h1 h2
      injection h2 with h2 _
      rw [(k a).mp h1, (k b).mp h2]
    | [], h => simp at h
    | [_], h => simp at h
    | _ :: _ :: _ :: _, h => simp at h
  · rintro rfl; rfl
theorem is77 : (Str.ofString "77").cps.toList = [55, 55] := by decide +kernel
theorem named_eq {a : Str} {t : List Str} (h : good a = true) : namedF (lowR (a :: t)) = !(cl a == [55, 55]) := by
  show (cl (Txt.lower a) != (Str.ofString "77").cps.toList) = _
  rw [is77, low_cl (Gd.of h).asc]
  show (!((cl a).map lo1 == [55, 55])) = _
  rw [map_lo1_77]
theorem least_eq (a : Str) (t : List Str) : leastF (a :: t) = if (cl a == cl (Str.ofString "local")) = true then 1 else 2 := rfl
theorem least_le (r : List Str) : 1 ≤ leastF r ∧ leastF r ≤ 2 := by unfold leastF; split <;> omega
theorem isHDN_host {a : Str} {t : List Str} (h : Rw (a :: t)) (ht : t ≠ []) : isHDN (hostOf (a :: t)) = namedF (lowR (a :: t)) := by
  obtain ⟨c, l, hc, hn⟩ := host_head h
  obtain ⟨l', c', hc', hn'⟩ := host_last h
  rw [named_eq (h.g a (.head _))]
  unfold isHDN
  rw [ipv4_host h, decide_eq_true ht, Bool.true_and]
  cases cl a == [55, 55] with
  | true => rfl
  | false =>
    have e1 : (cl (hostOf (a :: t)) == []) = false := by rw [hc]; rfl
    have e2 : ((cl (hostOf (a :: t))).head? == some 46) = false := by rw [hc]; simpa using hn
    have e3 : ((cl (hostOf (a :: t))).getLast? == some 46) = false := by rw [hc']; simpa using hn'
    rw [e1, e2, e3]; rfl
theorem slS_front {w : List Str} (z : Str) (hw : w ≠ []) : slS (hostOf (w ++ [z])) (some (((cl z).length : Int) + 1)) none = hostOf w := by
  have hx := host_front z hw
  have hl : (cl z).length + 1 ≤ (hostOf (w ++ [z])).length := by rw [← cl_len, hx]; simp
  have e : (((cl z).length : Int) + 1) = (((cl z).length + 1 : Nat) : Int) := by omega
  rw [e, slS_from hl, hx]
  have e2 : (cl z ++ 46 :: cl (hostOf w)).drop ((cl z).length + 1) = cl (hostOf w) := by rw [List.drop_append]; simp
  rw [e2, mk_cl]
theorem reach_host {r : List Str} (h : Rw r) : reachF (hostOf r) = if (namedF (lowR r) && decide (leastF r ≤ r.length - 1)) = true then Str.ofString "." ++ hostOf (r.take (r.length - 1)) else hostOf r := by
  obtain ⟨w, z, rfl⟩ : ∃ w z, r = w ++ [z] := ⟨_, _, (List.dropLast_concat_getLast h.ne).symm⟩
  by_cases hw : w = []
  · subst hw
    have hz := Gd.of (h.g z (by simp))
    have hf : Txt.find (hostOf [z]) (Str.ofString ".") = -1 := by rw [ofs_dot]; exact find_none (by rw [host_one]; exact hz.n46)
    have hl := (least_le [z]).1
    have hd : decide (leastF [z] ≤ 0) = false := decide_eq_false (by omega)
    show reachF (hostOf [z]) = if (namedF (lowR [z]) && decide (leastF [z] ≤ 0)) = true then _ else hostOf [z]
    rw [hd, Bool.and_false, if_neg (by decide)]
    unfold reachF
    rw [hf, if_neg (by decide)]
  · obtain ⟨a, w', rfl⟩ := List.exists_cons_of_ne_nil hw
    have hz := Gd.of (h.g z (by simp))
    have ha := Gd.of (h.g a (by simp))
    have hf : Txt.find (hostOf ((a :: w') ++ [z])) (Str.ofString ".") = (cl z).length := by rw [ofs_dot]; exact find_some (host_front z hw) hz.n46
    have hlen : ((a :: w') ++ [z]).length - 1 = w'.length + 1 := by simp
    have htk : ((a :: w') ++ [z]).take (w'.length + 1) = a :: w' := by simp
    rw [hlen, htk]
    unfold reachF
    rw [hf, if_pos (by omega), slS_front z hw, show isHDN (hostOf (a :: w' ++ [z])) = namedF (lowR (a :: w' ++ [z])) from isHDN_host (a := a) (t := w' ++ [z]) h (by simp)]
    have hle := least_le (a :: w' ++ [z])
    have hlq : leastF (a :: w' ++ [z]) = if (cl a == cl (Str.ofString "local")) = true then 1 else 2 := rfl
    have key : (decide (0 ≤ Txt.find (hostOf (a :: w')) (Str.ofString ".")) || cl (hostOf (a :: w')) == cl (Str.ofString "local")) = decide (leastF (a :: w' ++ [z]) ≤ w'.length + 1) := by
      by_cases hw' : w' = []
      · subst hw'
        have hf2 : Txt.find (hostOf [a]) (Str.ofString ".") = -1 := by rw [ofs_dot]; exact find_none (by rw [host_one]; exact ha.n46)
        rw [hf2, host_one, hlq]
        cases cl a == cl (Str.ofString "local") <;> rfl
      · have hf2 : Txt.find (hostOf (a :: w')) (Str.ofString ".") ≥ 0 := by
          obtain ⟨v, y, rfl⟩ : ∃ v y, w' = v ++ [y] := ⟨_, _, (List.dropLast_concat_getLast hw').symm⟩
          have hy := Gd.of (h.g y (by simp))
          rw [ofs_dot, show a :: (v ++ [y]) = (a :: v) ++ [y] from rfl, find_some (host_front y (by simp)) hy.n46]; omega
        have hp := List.length_pos_iff.mpr hw'
        rw [decide_eq_true hf2, decide_eq_true (show leastF (a :: w' ++ [z]) ≤ w'.length + 1 by omega)]; rfl
    rw [key]
end Mine
end PdZ3Part
section PdZ4Part
open PySem PySem.W PyProof.Rows
open PySem.Sre (isDigit)
namespace Mine
/-! paths -/
def pathOf (l : List Str) : Str := Str.ofString "/" ++ Txt.join (Str.ofString "/") l
theorem path_cl (l : List Str) : cl (pathOf l) = 47 :: jl 47 (l.map cl) := by
  unfold pathOf; rw [cl_append, txt_join, ofs_slash, cl_join]; rfl
theorem split_host {r : List Str} (h : Rw r) : Txt.split (hostOf r) (Str.ofString ".") = r.reverse := by
  unfold hostOf
  rw [txt_join, ofs_dot]
  exact split_join 46 (by simpa using h.ne) fun p hp => (Gd.of (h.g p (List.mem_reverse.mp hp))).n46
theorem asPath_host {r : List Str} (h : Rw r) : asPath (hostOf r) = pathOf (lowR r) := by
  unfold asPath
  rw [low_host h.g, split_host h.low, List.reverse_reverse]; rfl
theorem path_len {l : List Str} (h : Sm l) : (pathOf l).length ≤ 73 := by
  unfold pathOf
  have h1 := h.joinLen (sep := Str.ofString "/") (by decide +kernel)
  have h2 : (Str.ofString "/").length = 1 := by decide +kernel
  rw [← cl_len, cl_append, List.length_append, cl_len, cl_len]; omega
theorem jl_ne {c : Nat} {p : List Nat} {ps : List (List Nat)} (hp : p ≠ []) : ∃ a l, jl c (p :: ps) = a :: l ∧ p.head? = some a := by
  obtain ⟨a, l, rfl⟩ := List.exists_cons_of_ne_nil hp
  cases ps with
  | nil => exact ⟨a, l, rfl, rfl⟩
  | cons q ps => exact ⟨a, l ++ c :: jl c (q :: ps), rfl, rfl⟩
/-- dirname takes the last label off -/
theorem dir_path {l : List Str} {a : Str} (h : ∀ x ∈ l ++ [a], good x = true) (hs : Sm (l ++ [a])) : dirF (pathOf (l ++ [a])) = pathOf l := by
  have ha := Gd.of (h a (by simp))
  have hlen := path_len hs
  have h1 : (Str.ofString "/").length = 1 := by decide +kernel
  by_cases hl : l = []
  · subst hl
    have hx : cl (pathOf ([] ++ [a])) = [] ++ 47 :: cl a := by rw [path_cl]; rfl
    have hf : Txt.rfind (pathOf ([] ++ [a])) (Str.ofString "/") = 0 := by rw [ofs_slash]; exact rfind_some hx ha.n47
    have hsl : slS (pathOf ([] ++ [a])) none (some (Txt.rfind (pathOf ([] ++ [a])) (Str.ofString "/") + 1)) = Str.ofString "/" := by
      rw [hf, show ((0 : Int) + 1) = ((1 : Nat) : Int) from rfl, slS_to (by rw [← cl_len, hx]; simp), hx, ofs_slash]; rfl
    unfold dirF
    rw [hsl]
    have e : cl (Txt.mul (Str.ofString "/") ((Str.ofString "/").length : Int)) = cl (Str.ofString "/") := by rw [h1, ofs_slash, mul_one]; rfl
    rw [e, show (cl (Str.ofString "/") != cl (Str.ofString "/")) = false by simp, Bool.and_false, if_neg (by decide)]
    unfold pathOf; rw [txt_join]; rfl
  · obtain ⟨b, l', hb⟩ := List.exists_cons_of_ne_nil hl
    have hgb := Gd.of (h b (by rw [hb]; simp))
    have hx : cl (pathOf (l ++ [a])) = cl (pathOf l) ++ 47 :: cl a := by
      rw [path_cl, path_cl, List.map_append]
      show 47 :: jl 47 (l.map cl ++ [cl a]) = _
      rw [jl_snoc (by simpa using hl)]; rfl
    have hf : Txt.rfind (pathOf (l ++ [a])) (Str.ofString "/") = (cl (pathOf l)).length := by rw [ofs_slash]; exact rfind_some hx ha.n47
    have hsl : slS (pathOf (l ++ [a])) none (some (Txt.rfind (pathOf (l ++ [a])) (Str.ofString "/") + 1)) = mk (cl (pathOf l) ++ [47]) := by
      rw [hf, show (((cl (pathOf l)).length : Int) + 1) = (((cl (pathOf l)).length + 1 : Nat) : Int) by omega, slS_to (by rw [← cl_len, hx]; simp), hx]
      congr 1
      rw [List.take_append, List.take_of_length_le (Nat.le_succ _)]; simp
    unfold dirF
    rw [hsl]
    have hne : (mk (cl (pathOf l) ++ [47])).length ≠ 0 := by rw [mk_len]; simp
    obtain ⟨c, lc, hc⟩ := List.exists_cons_of_ne_nil hgb.ne
    have hc47 : c ≠ 47 := fun e => hgb.n47 (by rw [hc, e]; exact .head _)
    have hmem : c ∈ cl (pathOf l) := by
      obtain ⟨a', l2, e1, e2⟩ := jl_ne (c := 47) (ps := l'.map cl) hgb.ne
      rw [hc] at e2
      have e3 : a' = c := by simpa using e2.symm
      rw [path_cl, hb, List.map_cons, e1, e3]; simp
    have hdiff : (cl (mk (cl (pathOf l) ++ [47])) != cl (Txt.mul (Str.ofString "/") ((mk (cl (pathOf l) ++ [47])).length : Int))) = true := by
      rw [bne_iff_ne, cl_mk, ofs_slash, mul_one]
      intro e
      have hm : c ∈ cl (pathOf l) ++ [47] := List.mem_append_left _ hmem
      rw [e] at hm
      exact hc47 (List.eq_of_mem_replicate hm)
    rw [hdiff, Bool.and_true, if_pos (by simpa using hne)]
    rw [ofs_slash]
    rw [rstrip_one (l := cl (pathOf l)) (cl_mk _) (by rw [path_cl]; simp) ?_, mk_cl]
    obtain ⟨m, z, hz⟩ : ∃ m z, l = m ++ [z] := ⟨_, _, (List.dropLast_concat_getLast hl).symm⟩
    have hgz := Gd.of (h z (by rw [hz]; simp))
    obtain ⟨p, d, hp⟩ : ∃ p d, cl z = p ++ [d] := ⟨_, _, (List.dropLast_concat_getLast hgz.ne).symm⟩
    have hd : d ≠ 47 := fun e => hgz.n47 (by rw [hp, e]; simp)
    have hlast : ∃ q, cl (pathOf l) = q ++ [d] := by
      rw [path_cl, hz, List.map_append]
      by_cases hm : m = []
      · subst hm; exact ⟨47 :: p, by show 47 :: cl z = _; rw [hp]; simp⟩
      · refine ⟨47 :: (jl 47 (m.map cl) ++ 47 :: p), ?_⟩
        show 47 :: jl 47 (m.map cl ++ [cl z]) = _
        rw [jl_snoc (by simpa using hm), hp]; simp
    obtain ⟨q, hq⟩ := hlast
    rw [hq]; simpa using hd
/-! user-domain-match -/
theorem dot_cl : cl (Str.ofString ".") = [46] := by decide +kernel
theorem rung_cl (r : List Str) : cl (Str.ofString "." ++ hostOf r) = 46 :: cl (hostOf r) := by rw [cl_append, dot_cl]; rfl
theorem low_rung {r : List Str} (h : ∀ x ∈ r, good x = true) : Txt.lower (Str.ofString "." ++ hostOf r) = Str.ofString "." ++ hostOf (lowR r) := by
  apply cl_inj
  rw [low_cl, rung_cl, rung_cl, ← low_host h, low_cl (host_asc h)]
  · rfl
  · rw [rung_cl]
    intro c hc
    rcases List.mem_cons.mp hc with rfl | hc
    · decide
    · exact host_asc h c hc
theorem host_inj {r t : List Str} (hr : Rw r) (ht : Rw t) (h : cl (hostOf r) = cl (hostOf t)) : r = t := by
  rw [host_cl, host_cl] at h
  have n46 : ∀ {r : List Str}, Rw r → ∀ p ∈ r.reverse.map cl, 46 ∉ p := fun hr p hp => by
    obtain ⟨x, hx, rfl⟩ := List.mem_map.mp hp
    exact (Gd.of (hr.g x (List.mem_reverse.mp hx))).n46
  have := jl_inj (by simpa using hr.ne) (by simpa using ht.ne) (n46 hr) (n46 ht) h
  have h2 := map_cl_inj this
  simpa using congrArg List.reverse h2
/-- the host itself -/
theorem udm_same {r t : List Str} (hr : Rw r) (ht : Rw t) : udm (Txt.upper (hostOf r)) (hostOf t) = (lowR r == lowR t) := by
  unfold udm
  rw [low_up_host hr.g, low_host ht.g]
  obtain ⟨c, l, hc, hn⟩ := host_head ht.low
  have hsw : Txt.startswith (hostOf (lowR t)) (Str.ofString ".") = false := by
    rw [ofs_dot, startswith_one, hc]; simpa using hn
  have e : (cl (hostOf (lowR r)) == cl (hostOf (lowR t))) = (lowR r == lowR t) := by
    rw [Bool.eq_iff_iff, beq_iff_eq, beq_iff_eq]
    exact ⟨host_inj hr.low ht.low, fun h => by rw [h]⟩
  rw [hsw, e]
  simp only [Bool.false_and, Bool.not_false, Bool.true_and, Bool.false_eq_true, if_false]
  cases (lowR r == lowR t) <;> simp
theorem jl_app {c : Nat} {qs : List (List Nat)} (hq : qs ≠ []) : ∀ {ps : List (List Nat)}, ps ≠ [] → jl c (ps ++ qs) = jl c ps ++ c :: jl c qs
  | [], h => absurd rfl h
  | [p], _ => by
    obtain ⟨q, qs', rfl⟩ := List.exists_cons_of_ne_nil hq
    rfl
  | p :: p' :: ps, _ => by
    have ih := jl_app (c := c) hq (ps := p' :: ps) (by simp)
    show p ++ c :: jl c ((p' :: ps) ++ qs) = _
    rw [ih]
    show _ = (p ++ c :: jl c (p' :: ps)) ++ c :: jl c qs
    simp
theorem unjl (c : Nat) : ∀ p : List Nat, ∃ ps, ps ≠ [] ∧ (∀ q ∈ ps, c ∉ q) ∧ jl c ps = p
  | [] => ⟨[[]], by simp, by simp, rfl⟩
  | a :: p => by
    obtain ⟨ps, h1, h2, h3⟩ := unjl c p
    obtain ⟨q, qs, rfl⟩ := List.exists_cons_of_ne_nil h1
    by_cases ha : a = c
    · subst ha
      refine ⟨[] :: q :: qs, by simp, fun x hx => ?_, ?_⟩
      · rcases List.mem_cons.mp hx with rfl | hx
        · simp
        · exact h2 x hx
      · show [] ++ a :: jl a (q :: qs) = _
        rw [h3]; rfl
    · refine ⟨(a :: q) :: qs, by simp, fun x hx => ?_, ?_⟩
      · rcases List.mem_cons.mp hx with rfl | hx
        · intro hm
          rcases List.mem_cons.mp hm with e | hm
          · exact ha e.symm
          · exact h2 q (.head _) hm
        · exact h2 x (.tail _ hx)
      · cases qs with
        | nil => show a :: q = _; rw [← h3]; rfl
        | cons y ys =>
          show (a :: q) ++ c :: jl c (y :: ys) = _
          rw [← h3]; rfl
/-- low hosts, and a dot with low labels -/
theorem ends_iff {R T : List Str} (hR : Rw R) (hT : Rw T) : (∃ p, cl (hostOf R) = p ++ 46 :: cl (hostOf T)) ↔ T.length < R.length ∧ R.take T.length = T := by
  have n46 : ∀ {r : List Str}, Rw r → ∀ p ∈ r.reverse.map cl, 46 ∉ p := fun hr p hp => by
    obtain ⟨x, hx, rfl⟩ := List.mem_map.mp hp
    exact (Gd.of (hr.g x (List.mem_reverse.mp hx))).n46
  have hTn : T.reverse.map cl ≠ [] := by simpa using hT.ne
  rw [host_cl, host_cl]
  constructor
  · rintro ⟨p, hp⟩
    obtain ⟨ps, h1, h2, rfl⟩ := unjl 46 p
    rw [← jl_app hTn h1] at hp
    have e := jl_inj (by simpa using hR.ne) (by simpa using fun q => absurd q h1) (n46 hR) (fun q hq => by
      rcases List.mem_append.mp hq with hq | hq
      · exact h2 q hq
      · exact n46 hT q hq) hp
    have e2 : (R.reverse.drop ps.length).map cl = T.reverse.map cl := by rw [List.map_drop, e, List.drop_append]; simp
    have e3 := map_cl_inj e2
    have hlen : R.length = ps.length + T.length := by have := congrArg List.length e; simpa using this
    have hpos := List.length_pos_iff.mpr h1
    refine ⟨by omega, ?_⟩
    have e4 := congrArg List.reverse e3
    rw [List.reverse_drop] at e4
    simp at e4
    rw [show R.length - ps.length = T.length by omega] at e4
    exact e4
  · rintro ⟨h1, h2⟩
    have hr : R = T ++ R.drop T.length := by
      have := (List.take_append_drop T.length R).symm
      rw [h2] at this; exact this
    have hne : R.drop T.length ≠ [] := by
      intro e
      have := congrArg List.length e
      rw [List.length_drop, List.length_nil] at this; omega
    refine ⟨jl 46 ((R.drop T.length).reverse.map cl), ?_⟩
    rw [← jl_app hTn (by simpa using h1), ← List.map_append, ← List.reverse_append, ← hr]
theorem ipv4_rung {b : Str} {t : List Str} (h : Rw (b :: t)) : ipv4 (Str.ofString "." ++ hostOf (b :: t)) = (cl b == [55, 55]) := by
  have hg := Gd.of (h.g b (.head _))
  have hs := host_len h.sm
  have h1 : (Str.ofString ".").length = 1 := by decide +kernel
  have hl : (Str.ofString "." ++ hostOf (b :: t)).length ≤ 100000 := by rw [← cl_len, rung_cl, List.length_cons, cl_len]; omega
  rw [← hg.dig]
  by_cases ht : t = []
  · subst ht
    exact ipv4_last (p := []) hl (by rw [rung_cl, host_one]; rfl) hg.n46 hg.n10 hg.ne
  · exact ipv4_last (p := 46 :: jl 46 (t.reverse.map cl)) hl (by rw [rung_cl, host_tail b ht]; rfl) hg.n46 hg.n10 hg.ne
theorem udm_dot {R T : List Str} (hR : Rw R) (hT : Rw T) (hl : lowR R = R) (hlt : lowR T = T) : udm (Txt.upper (hostOf R)) (Str.ofString "." ++ hostOf T) = (namedF T && (decide (T.length < R.length) && (R.take T.length == T))) := by
  have hen := ends_iff hR hT
  obtain ⟨a, R', rfl⟩ := List.exists_cons_of_ne_nil hR.ne
  obtain ⟨b, T', rfl⟩ := List.exists_cons_of_ne_nil hT.ne
  have hnm : namedF (b :: T') = !(cl b == [55, 55]) := by rw [← hlt]; exact named_eq (hT.g b (.head _))
  unfold udm
  rw [low_up_host hR.g, low_rung hT.g, hl, hlt, ipv4_host hR, ipv4_rung hT, hnm]
  obtain ⟨c, l, hc, hn⟩ := host_head hR
  have hsw : Txt.startswith (Str.ofString "." ++ hostOf (b :: T')) (Str.ofString ".") = true := by
    rw [ofs_dot, startswith_one, ← ofs_dot, rung_cl]; rfl
  have hne : (cl (hostOf (a :: R')) == cl (Str.ofString "." ++ hostOf (b :: T'))) = false := by
    rw [rung_cl, hc, beq_eq_false_iff_ne]
    intro e; injection e with e _; exact hn e
  have hew : Txt.endswith (hostOf (a :: R')) (Str.ofString "." ++ hostOf (b :: T')) = (decide ((b :: T').length < (a :: R').length) && ((a :: R').take (b :: T').length == (b :: T'))) := by
    rw [Bool.eq_iff_iff, endswith_iff, rung_cl, hen, Bool.and_eq_true, decide_eq_true_iff, beq_iff_eq]
  rw [hsw, hne, hew]
  generalize hE : (decide ((b :: T').length < (a :: R').length) && ((a :: R').take (b :: T').length == (b :: T'))) = e
  cases hib : (cl b == [55, 55]) with
  | true => simp
  | false =>
    cases hia : (decide (R' ≠ []) && (cl a == [55, 55])) with
    | false => cases e <;> simp
    | true =>
      have he : e = false := by
        rw [← hE, ← Bool.not_eq_true]
        intro h
        rw [Bool.and_eq_true, beq_iff_eq] at h
        have h2 := h.2
        rw [List.length_cons, List.take_succ_cons] at h2
        injection h2 with h3 _
        rw [Bool.and_eq_true, h3, hib] at hia
        exact absurd hia.2 (by decide)
      rw [he]; simp
end Mine
end PdZ4Part
section PdZ5Part
open PySem PySem.W PyProof.Rows
open PySem.Sre (isDigit)
namespace Mine
theorem udm_nil {R : List Str} (hR : Rw R) (hl : lowR R = R) : udm (Txt.upper (hostOf R)) (Str.ofString "." ++ hostOf []) = false := by
  have hB : cl (Str.ofString "." ++ hostOf []) = [46] := by rw [rung_cl, host_cl]; rfl
  have hlB : cl (Txt.lower (Str.ofString "." ++ hostOf [])) = [46] := by rw [low_cl (by rw [hB]; decide), hB]; rfl
  obtain ⟨c, l, hc, hn⟩ := host_head hR
  obtain ⟨l', c', hc', hn'⟩ := host_last hR
  unfold udm
  rw [low_up_host hR.g, hl]
  have h1 : (cl (hostOf R) == cl (Txt.lower (Str.ofString "." ++ hostOf []))) = false := by
    rw [hlB, hc, beq_eq_false_iff_ne]; intro e; injection e with e _; exact hn e
  have h2 : Txt.startswith (Txt.lower (Str.ofString "." ++ hostOf [])) (Str.ofString ".") = true := by rw [ofs_dot, startswith_one, ← ofs_dot, hlB]; rfl
  have h3 : Txt.endswith (hostOf R) (Txt.lower (Str.ofString "." ++ hostOf [])) = false := by
    rw [← Bool.not_eq_true, endswith_iff, hlB]
    rintro ⟨p, hp⟩
    rw [hc'] at hp
    have := congrArg List.getLast? hp
    simp at this
    exact hn' this
  rw [h1, h2, h3]; simp
/-! the paths' parts -/
theorem split_path {l : List Str} (h : ∀ x ∈ l, good x = true) : (Txt.split (pathOf l) (Str.ofString "/")).filter keepC = l ∧ ((∀ x ∈ Txt.split (pathOf l) (Str.ofString "/"), x.length ≤ 8) ∧ (Txt.split (pathOf l) (Str.ofString "/")).length ≤ l.length + 2) := by
  have he : cl (Str.ofString "") = [] := empty_is
  have hel : (Str.ofString "").length = 0 := by rw [← cl_len, he]; rfl
  have hk0 : keepC (Str.ofString "") = false := by unfold keepC; rw [hel]; rfl
  have hk : l.filter keepC = l := List.filter_eq_self.mpr fun x hx => by
    have hg := Gd.of (h x hx)
    have hl : x.length ≠ 0 := by rw [← cl_len]; exact fun e => hg.ne (List.length_eq_zero_iff.mp e)
    unfold keepC
    rw [dot_cl, Bool.and_eq_true, bne_iff_ne, bne_iff_ne]
    exact ⟨hl, fun e => hg.n46 (by rw [e]; exact .head _)⟩
  have hlen : ∀ x ∈ l, x.length ≤ 8 := fun x hx => by have := (Gd.of (h x hx)).len; rw [cl_len] at this; exact this
  by_cases hl : l = []
  · subst hl
    have e : pathOf [] = Str.join (mk [47]) [Str.ofString "", Str.ofString ""] := by
      apply cl_inj; rw [path_cl, cl_join]; show [47] = cl (Str.ofString "") ++ 47 :: cl (Str.ofString ""); rw [he]; rfl
    rw [e, ofs_slash, split_join 47 (by simp) (by
      intro p hp
      have : p = Str.ofString "" := by simpa using hp
      rw [this, he]; simp)]
    refine ⟨by rw [List.filter_cons, hk0, List.filter_cons, hk0]; rfl, fun x hx => ?_, by simp⟩
    have : x = Str.ofString "" := by simpa using hx
    rw [this, hel]; omega
  · have e : pathOf l = Str.join (mk [47]) (Str.ofString "" :: l) := by
      apply cl_inj
      rw [path_cl, cl_join]
      obtain ⟨a, t, rfl⟩ := List.exists_cons_of_ne_nil hl
      show _ = cl (Str.ofString "") ++ 47 :: jl 47 ((a :: t).map cl)
      rw [he]; rfl
    rw [e, ofs_slash, split_join 47 (by simp) (by
      intro p hp
      rcases List.mem_cons.mp hp with rfl | hp
      · rw [he]; simp
      · exact (Gd.of (h p hp)).n47)]
    refine ⟨by rw [List.filter_cons, hk0, hk]; rfl, fun x hx => ?_, by simp⟩
    rcases List.mem_cons.mp hx with rfl | hx
    · rw [hel]; omega
    · exact hlen x hx
/-! the order -/
theorem lt_tri {a b : List Nat} (h1 : ¬ a < b) (h2 : ¬ b < a) : a = b := List.le_antisymm (List.not_lt.mp h2) (List.not_lt.mp h1)
theorem ltL_irrefl : ∀ x : List Str, ltL x x = false
  | [] => rfl
  | a :: x => by show (if (a == a) = true then ltL x x else _) = false; rw [beq_self_eq_true, if_pos rfl]; exact ltL_irrefl x
theorem ltL_trans : ∀ {x y z : List Str}, ltL x y = true → ltL y z = true → ltL x z = true
  | [], [], _, h, _ => by cases h
  | [], _ :: _, [], _, h => by cases h
  | [], _ :: _, _ :: _, _, _ => rfl
  | _ :: _, [], _, h, _ => by cases h
  | _ :: _, _ :: _, [], _, h => by cases h
  | a :: x, b :: y, c :: z, h1, h2 => by
    have h1' : (if (a == b) = true then ltL x y else decide (cl a < cl b)) = true := h1
    have h2' : (if (b == c) = true then ltL y z else decide (cl b < cl c)) = true := h2
    show (if (a == c) = true then ltL x z else decide (cl a < cl c)) = true
    by_cases hab : a = b
    · subst hab
      rw [beq_self_eq_true, if_pos rfl] at h1'
      by_cases hac : a = c
      · subst hac
        rw [beq_self_eq_true, if_pos rfl] at h2' ⊢
        exact ltL_trans h1' h2'
      · rw [if_neg (by simpa using hac)] at h2' ⊢; exact h2'
    · rw [if_neg (by simpa using hab)] at h1'
      by_cases hbc : b = c
      · subst hbc; rw [if_neg (by simpa using hab)]; exact h1'
      · rw [if_neg (by simpa using hbc)] at h2'
        have h3 := List.lt_trans (of_decide_eq_true h1') (of_decide_eq_true h2')
        have hac : a ≠ c := fun e => by rw [e] at h3; exact List.lt_irrefl _ h3
        rw [if_neg (by simpa using hac)]
        exact decide_eq_true h3
theorem best_le (bt : Nat → Nat → Bool) : ∀ j, argBest bt j ≤ j
  | 0 => Nat.le_refl _
  | j + 1 => by
    show (if bt (j + 1) (argBest bt j) = true then j + 1 else argBest bt j) ≤ j + 1
    split
    · exact Nat.le_refl _
    · exact Nat.le_succ_of_le (best_le bt j)
theorem best_spec (bt : Nat → Nat → Bool) (hi : ∀ i, bt i i = false) (ht : ∀ i j k, bt i j = true → bt j k = true → bt i k = true) : ∀ j i, i ≤ j → bt i (argBest bt j) = false
  | 0, i, h => by rw [Nat.le_zero.mp h]; exact hi 0
  | j + 1, i, h => by
    show bt i (if bt (j + 1) (argBest bt j) = true then j + 1 else argBest bt j) = false
    split
    · rename_i hb
      by_cases e : i = j + 1
      · subst e; exact hi _
      · rw [← Bool.not_eq_true]
        intro q
        have := best_spec bt hi ht j i (by omega)
        rw [ht _ _ _ q hb] at this; cases this
    · rename_i hb
      by_cases e : i = j + 1
      · subst e; simpa using hb
      · exact best_spec bt hi ht j i (by omega)
theorem getD_mem {L : List (List Str)} {i : Nat} (h : i < L.length) : L.getD i [] ∈ L := by
  rw [List.getD_eq_getElem?_getD, List.getElem?_eq_getElem h]; exact List.getElem_mem h
theorem min_mem {L : List (List Str)} (h : L ≠ []) : minL L ∈ L := by
  have hp := List.length_pos_iff.mpr h
  exact getD_mem (Nat.lt_of_le_of_lt (best_le _ _) (by omega))
theorem max_mem {L : List (List Str)} (h : L ≠ []) : maxL L ∈ L := by
  have hp := List.length_pos_iff.mpr h
  exact getD_mem (Nat.lt_of_le_of_lt (best_le _ _) (by omega))
theorem mem_getD {L : List (List Str)} {x : List Str} (h : x ∈ L) : ∃ i, i < L.length ∧ L.getD i [] = x := by
  obtain ⟨i, hi, rfl⟩ := List.getElem_of_mem h
  exact ⟨i, hi, by rw [List.getD_eq_getElem?_getD, List.getElem?_eq_getElem hi]; rfl⟩
theorem min_spec {L : List (List Str)} {x : List Str} (h : x ∈ L) : ltL x (minL L) = false := by
  obtain ⟨i, hi, rfl⟩ := mem_getD h
  exact best_spec (fun i j => ltL (L.getD i []) (L.getD j [])) (fun i => ltL_irrefl _) (fun i j k h1 h2 => ltL_trans h1 h2) (L.length - 1) i (by omega)
theorem max_spec {L : List (List Str)} {x : List Str} (h : x ∈ L) : ltL (maxL L) x = false := by
  obtain ⟨i, hi, rfl⟩ := mem_getD h
  exact best_spec (fun i j => ltL (L.getD j []) (L.getD i [])) (fun i => ltL_irrefl _) (fun i j k h1 h2 => ltL_trans h2 h1) (L.length - 1) i (by omega)
theorem between : ∀ (k : Nat) (m M x : List Str), ltL x m = false → ltL M x = false → m.take k = M.take k → k ≤ m.length → k ≤ M.length → k ≤ x.length ∧ x.take k = m.take k
  | 0, _, _, _, _, _, _, _, _ => ⟨Nat.zero_le _, by simp⟩
  | k + 1, [], _, _, _, _, _, h, _ => by simp at h
  | k + 1, _ :: _, [], _, _, _, _, _, h => by simp at h
  | k + 1, a :: m, b :: M, [], h, _, _, _, _ => by cases h
  | k + 1, a :: m, b :: M, c :: x, h1, h2, h3, h4, h5 => by
    rw [List.take_succ_cons, List.take_succ_cons] at h3
    injection h3 with h6 h7
    subst h6
    have h1' : (if (c == a) = true then ltL x m else decide (cl c < cl a)) = false := h1
    have h2' : (if (a == c) = true then ltL M x else decide (cl a < cl c)) = false := h2
    by_cases hc : c = a
    · subst hc
      rw [beq_self_eq_true, if_pos rfl] at h1' h2'
      obtain ⟨q1, q2⟩ := between k m M x h1' h2' h7 (by simpa using h4) (by simpa using h5)
      exact ⟨by simpa using q1, by rw [List.take_succ_cons, List.take_succ_cons, q2]⟩
    · rw [if_neg (by simpa using hc)] at h1'
      rw [if_neg (by simpa using Ne.symm hc)] at h2'
      exact absurd (cl_inj (lt_tri (of_decide_eq_false h1') (of_decide_eq_false h2'))) hc
theorem comL_pre : ∀ s t : List Str, (comL s t).length ≤ s.length ∧ (comL s t).length ≤ t.length ∧ s.take (comL s t).length = comL s t ∧ t.take (comL s t).length = comL s t
  | [], _ => by simp [comL]
  | _ :: _, [] => by simp [comL]
  | a :: s, b :: t => by
    obtain ⟨h1, h2, h3, h4⟩ := comL_pre s t
    have e : comL (a :: s) (b :: t) = if (cl a == cl b) = true then a :: comL s t else [] := rfl
    rw [e]
    by_cases hab : cl a = cl b
    · have hab' := cl_inj hab
      subst hab'
      rw [if_pos (by simp)]
      refine ⟨by simpa using h1, by simpa using h2, ?_, ?_⟩
      · rw [List.length_cons, List.take_succ_cons, h3]
      · rw [List.length_cons, List.take_succ_cons, h4]
    · rw [if_neg (by simpa using hab)]; simp
theorem comL_most : ∀ (k : Nat) (s t : List Str), s.take k = t.take k → k ≤ s.length → k ≤ t.length → k ≤ (comL s t).length
  | 0, _, _, _, _, _ => Nat.zero_le _
  | k + 1, [], _, _, h, _ => by simp at h
  | k + 1, _ :: _, [], _, _, h => by simp at h
  | k + 1, a :: s, b :: t, h, h1, h2 => by
    rw [List.take_succ_cons, List.take_succ_cons] at h
    injection h with h3 h4
    subst h3
    have e : comL (a :: s) (a :: t) = if (cl a == cl a) = true then a :: comL s t else [] := rfl
    rw [e, if_pos (by simp), List.length_cons]
    exact Nat.succ_le_succ (comL_most k s t h4 (by simpa using h1) (by simpa using h2))
theorem lt_prefix : ∀ (i : Nat) (s : List Str), i < s.length → ltL (s.take i) s = true
  | _, [], h => by simp at h
  | 0, _ :: _, _ => rfl
  | i + 1, a :: s, h => by
    rw [List.take_succ_cons]
    show (if (a == a) = true then ltL (s.take i) s else _) = true
    rw [beq_self_eq_true, if_pos rfl]
    exact lt_prefix i s (by simpa using h)
end Mine
end PdZ5Part
section PdZ6Part
open PySem PySem.W PyProof.Rows
open PySem.Sre (isDigit)
namespace Mine
/-! the law on lists of labels -/
structure LR (r0 : List Str) (rs : List (List Str)) : Prop where
  all : ∀ r ∈ r0 :: rs, Rw r
  len : (r0 :: rs).length ≤ 10
variable {r0 : List Str} {rs : List (List Str)}
theorem LR.due (h : LR r0 rs) : DueOk r0 rs := ⟨h.len, fun r hr => ⟨(h.all r hr).sm, (h.all r hr).ne⟩, fun r hr x hx => by
  have := (Gd.of (good_low ((h.all r hr).g x hx))).len
  rw [cl_len] at this; exact this⟩
theorem low_len (r : List Str) : (lowR r).length = r.length := by unfold lowR; rw [List.length_map]
theorem low_take (r : List Str) (k : Nat) : lowR (r.take k) = (lowR r).take k := by unfold lowR; rw [List.map_take]
theorem bad_iff (l0 : List Str) (k : Nat) (r : List Str) : badAt l0 k r = false ↔ k < r.length ∧ r.take k = l0.take k := by
  unfold badAt
  rw [Bool.or_eq_false_iff, decide_eq_false_iff_not, bne_eq_false_iff_eq]
  constructor
  · rintro ⟨h1, h2⟩; exact ⟨by omega, h2⟩
  · rintro ⟨h1, h2⟩; exact ⟨by omega, h2⟩
theorem sizeF_spec (low : List (List Str)) (l0 : List Str) (h0 : low.any (badAt l0 0) = false) : ∀ m, sizeF low l0 m ≤ m ∧ low.any (badAt l0 (sizeF low l0 m)) = false ∧ ∀ k, sizeF low l0 m < k → k ≤ m → low.any (badAt l0 k) = true
  | 0 => ⟨Nat.le_refl _, h0, fun k h1 h2 => by have h1' : 0 < k := h1; omega⟩
  | m + 1 => by
    obtain ⟨h1, h2, h3⟩ := sizeF_spec low l0 h0 m
    cases hb : low.any (badAt l0 (m + 1)) with
    | true =>
      rw [sizeF_go _ _ _ hb]
      refine ⟨by omega, h2, fun k h4 h5 => ?_⟩
      by_cases hk : k = m + 1
      · subst hk; exact hb
      · exact h3 k h4 (by omega)
    | false =>
      rw [sizeF_stop _ _ _ hb]
      exact ⟨Nat.le_refl _, hb, fun k h4 h5 => by omega⟩
theorem LR.pos (h : LR r0 rs) : 0 < r0.length := List.length_pos_iff.mpr (h.all r0 (.head _)).ne
theorem LR.bad0 (h : LR r0 rs) : ((r0 :: rs).map lowR).any (badAt (lowR r0) 0) = false :=
  bad_zero _ _ fun r hr => by obtain ⟨r', hr', rfl⟩ := List.mem_map.mp hr; exact (h.all r' hr').low.ne
theorem LR.size (h : LR r0 rs) : dSize r0 rs ≤ r0.length - 1 ∧ ((r0 :: rs).map lowR).any (badAt (lowR r0) (dSize r0 rs)) = false ∧ ∀ k, dSize r0 rs < k → k ≤ r0.length - 1 → ((r0 :: rs).map lowR).any (badAt (lowR r0) k) = true :=
  sizeF_spec _ _ h.bad0 _
theorem any_false {k : Nat} (h : ((r0 :: rs).map lowR).any (badAt (lowR r0) k) = false) {r : List Str} (hr : r ∈ r0 :: rs) : badAt (lowR r0) k (lowR r) = false := by
  rw [List.any_eq_false] at h
  have := h (lowR r) (List.mem_map.mpr ⟨r, hr, rfl⟩)
  simpa using this
def dl (r : List Str) : List Str := (lowR r).dropLast
theorem dl_take (r : List Str) {k : Nat} (h : k ≤ (dl r).length) : (dl r).take k = (lowR r).take k := by
  unfold dl at h ⊢
  rw [List.length_dropLast] at h
  rw [List.dropLast_eq_take, List.take_take, Nat.min_eq_left h]
theorem dl_len (r : List Str) : (dl r).length = r.length - 1 := by unfold dl; rw [List.length_dropLast, low_len]
theorem dl_good {r : List Str} (h : Rw r) : ∀ x ∈ dl r, good x = true := fun x hx => h.low.g x ((List.dropLast_subset _ hx))
theorem dl_sm {r : List Str} (h : Rw r) : Sm (dl r) := ⟨by rw [dl_len]; have := h.n; omega, fun t ht => by have := (Gd.of (dl_good h t ht)).len; rw [cl_len] at this; exact this⟩
theorem LR.com (h : LR r0 rs) : comL (minL ((r0 :: rs).map dl)) (maxL ((r0 :: rs).map dl)) = (lowR r0).take (dSize r0 rs) := by
  have hL : (r0 :: rs).map dl ≠ [] := by simp
  obtain ⟨c1, c2, c3, c4⟩ := comL_pre (minL ((r0 :: rs).map dl)) (maxL ((r0 :: rs).map dl))
  obtain ⟨z1, z2, z3⟩ := h.size
  have hpos := h.pos
  have e0 : dl r0 ∈ (r0 :: rs).map dl := List.mem_map.mpr ⟨r0, .head _, rfl⟩
  have share : ∀ r ∈ r0 :: rs, (comL (minL ((r0 :: rs).map dl)) (maxL ((r0 :: rs).map dl))).length ≤ (dl r).length ∧ (dl r).take (comL (minL ((r0 :: rs).map dl)) (maxL ((r0 :: rs).map dl))).length = comL (minL ((r0 :: rs).map dl)) (maxL ((r0 :: rs).map dl)) := fun r hr => by
    have hm : dl r ∈ (r0 :: rs).map dl := List.mem_map.mpr ⟨r, hr, rfl⟩
    obtain ⟨q1, q2⟩ := between _ _ _ (dl r) (min_spec hm) (max_spec hm) (c3.trans c4.symm) c1 c2
    exact ⟨q1, q2.trans c3⟩
  generalize hc : (comL (minL ((r0 :: rs).map dl)) (maxL ((r0 :: rs).map dl))).length = c at *
  have hc0 := share r0 (.head _)
  have hcle : c ≤ dSize r0 rs := by
    refine Nat.le_of_not_lt fun hlt => ?_
    have hcn : c ≤ r0.length - 1 := by rw [← dl_len]; exact hc0.1
    have hany := z3 c hlt hcn
    rw [List.any_eq_true] at hany
    obtain ⟨l, hl, hbad⟩ := hany
    obtain ⟨r, hr, rfl⟩ := List.mem_map.mp hl
    have hs := share r hr
    have hrp := List.length_pos_iff.mpr (h.all r hr).ne
    have : badAt (lowR r0) c (lowR r) = false := (bad_iff _ _ _).mpr ⟨by rw [low_len]; have := hs.1; rw [dl_len] at this; omega, by rw [← dl_take r hs.1, ← dl_take r0 hc0.1, hs.2, hc0.2]⟩
    rw [this] at hbad; cases hbad
  have hsz : ∀ r ∈ r0 :: rs, dSize r0 rs ≤ (dl r).length ∧ (dl r).take (dSize r0 rs) = (lowR r0).take (dSize r0 rs) := fun r hr => by
    obtain ⟨q1, q2⟩ := (bad_iff _ _ _).mp (any_false z2 hr)
    rw [low_len] at q1
    have : dSize r0 rs ≤ (dl r).length := by rw [dl_len]; omega
    exact ⟨this, by rw [dl_take r this]; exact q2⟩
  have hsle : dSize r0 rs ≤ c := by
    obtain ⟨rm, hrm, em⟩ := List.mem_map.mp (min_mem hL)
    obtain ⟨rM, hrM, eM⟩ := List.mem_map.mp (max_mem hL)
    rw [← hc]
    refine comL_most _ _ _ ?_ ?_ ?_
    · rw [← em, ← eM, (hsz rm hrm).2, (hsz rM hrM).2]
    · rw [← em]; exact (hsz rm hrm).1
    · rw [← eM]; exact (hsz rM hrM).1
  have hce : c = dSize r0 rs := Nat.le_antisymm hcle hsle
  rw [← hc0.2, hce, dl_take r0 (hsz r0 (.head _)).1]
theorem min_spec_max {L : List (List Str)} (h : L ≠ []) : ltL (maxL L) (minL L) = false := min_spec (max_mem h)
abbrev pathsOf (r0 : List Str) (rs : List (List Str)) : List Str := (r0 :: rs).map fun r => pathOf (dl r)
theorem LR.spl (h : LR r0 rs) : splC (pathsOf r0 rs) = (r0 :: rs).map dl := by
  unfold splC
  rw [List.map_map]
  exact List.map_congr_left fun r hr => (split_path (dl_good (h.all r hr))).1
theorem Sm.lowTake (h : LR r0 rs) (k : Nat) : Sm ((lowR r0).take k) := ((h.all r0 (.head _)).low.sm).take k
theorem slash_len : (Str.ofString "/").length ≤ 1 := by decide +kernel
theorem LR.comOk (h : LR r0 rs) : ComOk (pathsOf r0 rs) := by
  have hL : (r0 :: rs).map dl ≠ [] := by simp
  have hsm : Sm ((lowR r0).take (dSize r0 rs)) := Sm.lowTake h _
  obtain ⟨rm, hrm, em⟩ := List.mem_map.mp (min_mem hL)
  obtain ⟨rM, hrM, eM⟩ := List.mem_map.mp (max_mem hL)
  have hnm : (minL ((r0 :: rs).map dl)).length ≤ 8 := by rw [← em]; exact (dl_sm (h.all rm hrm)).n
  have hnM : (maxL ((r0 :: rs).map dl)).length ≤ 8 := by rw [← eM]; exact (dl_sm (h.all rM hrM)).n
  refine ⟨by simp, by rw [List.length_map]; exact h.len, fun p hp => ?_, fun p hp => ?_, fun p hp x hx => ?_, fun p hp => ?_, fun i hi he => ?_, ?_, ?_, ?_, ?_⟩
  · obtain ⟨r, hr, rfl⟩ := List.mem_map.mp hp
    rw [ofs_slash, startswith_one, path_cl]; rfl
  · obtain ⟨r, hr, rfl⟩ := List.mem_map.mp hp
    have := path_len (dl_sm (h.all r hr)); omega
  · obtain ⟨r, hr, rfl⟩ := List.mem_map.mp hp
    have := (split_path (dl_good (h.all r hr))).2.1 x hx; omega
  · obtain ⟨r, hr, rfl⟩ := List.mem_map.mp hp
    have h1 := (split_path (dl_good (h.all r hr))).2.2
    have h2 := (dl_sm (h.all r hr)).n; omega
  · rw [h.spl] at hi he ⊢
    refine Nat.lt_of_not_le fun hle => ?_
    have hlen := congrArg List.length he
    rw [List.length_take, List.length_take] at hlen
    have hMi : (maxL ((r0 :: rs).map dl)).take i = maxL ((r0 :: rs).map dl) := List.take_of_length_le hle
    have hlt := lt_prefix i _ hi
    rw [he, hMi, min_spec_max hL] at hlt
    cases hlt
  · rw [h.spl]; omega
  · rw [h.spl]; omega
  · rw [h.spl, h.com]; exact hsm.joinOk slash_len
  · rw [h.spl, h.com]; have := hsm.joinLen slash_len; omega
theorem LR.comF (h : LR r0 rs) : commonF (pathsOf r0 rs) = dShared r0 rs := by unfold commonF; rw [h.spl, h.com]; rfl
end Mine
end PdZ6Part
section PdZ7Part
open PySem PySem.W PyProof.Rows
open PySem.Sre (isDigit)
namespace Mine
variable {r0 : List Str} {rs : List (List Str)}
theorem udm_low {x x' y y' : Str} (h1 : Txt.lower x = Txt.lower x') (h2 : Txt.lower y = Txt.lower y') : udm x y = udm x' y' := by
  unfold udm; rw [h1, h2]
theorem head_take {l : List Str} {k : Nat} (hk : 1 ≤ k) : namedF (l.take k) = namedF l := by
  obtain ⟨k, rfl⟩ : ∃ i, k = i + 1 := ⟨k - 1, by omega⟩
  cases l <;> rfl
theorem udm_take (h : LR r0 rs) {r : List Str} (hr : r ∈ r0 :: rs) {k : Nat} (h1 : 1 ≤ k) (h2 : k < r0.length) (y : Str) (hy : Txt.lower y = Str.ofString "." ++ hostOf ((lowR r0).take k)) : udm (Txt.upper (hostOf r)) y = (namedF (lowR r0) && !badAt (lowR r0) k (lowR r)) := by
  have hR := (h.all r hr).low
  have hT := (h.all r0 (.head _)).low.take h1
  have hll : lowR (lowR r) = lowR r := lowR_low (h.all r hr).g
  have hlt : lowR ((lowR r0).take k) = (lowR r0).take k := by rw [low_take, lowR_low (h.all r0 (.head _)).g]
  have e1 : Txt.lower (Txt.upper (hostOf r)) = Txt.lower (Txt.upper (hostOf (lowR r))) := by rw [low_up_host (h.all r hr).g, low_up_host hR.g, hll]
  have e2 : Txt.lower y = Txt.lower (Str.ofString "." ++ hostOf ((lowR r0).take k)) := by rw [hy, low_rung hT.g, hlt]
  rw [udm_low e1 e2, udm_dot hR hT hll hlt, head_take h1]
  have hlen : ((lowR r0).take k).length = k := by rw [List.length_take, low_len]; omega
  rw [hlen]
  cases hn : namedF (lowR r0) with
  | false => rfl
  | true =>
    rw [Bool.true_and, Bool.true_and]
    cases hb : badAt (lowR r0) k (lowR r) with
    | false =>
      obtain ⟨q1, q2⟩ := (bad_iff _ _ _).mp hb
      rw [decide_eq_true q1, q2]; simp
    | true =>
      have : ¬ (k < (lowR r).length ∧ (lowR r).take k = (lowR r0).take k) := fun q => by rw [(bad_iff _ _ _).mpr q] at hb; cases hb
      by_cases q1 : k < (lowR r).length
      · have q2 : (lowR r).take k ≠ (lowR r0).take k := fun q => this ⟨q1, q⟩
        rw [decide_eq_true q1, beq_eq_false_iff_ne.mpr q2]; rfl
      · rw [decide_eq_false q1]; rfl
theorem rung_eq (r : List Str) (k : Nat) : rungF r k = Str.ofString "." ++ hostOf (r.take k) := rfl
theorem low_rungF (h : LR r0 rs) (k : Nat) : Txt.lower (rungF r0 k) = Str.ofString "." ++ hostOf ((lowR r0).take k) := by
  rw [rung_eq, low_rung (fun x hx => (h.all r0 (.head _)).g x (List.mem_of_mem_take hx)), low_take]
theorem LR.match_ (h : LR r0 rs) {r : List Str} (hr : r ∈ r0 :: rs) {k : Nat} (h1 : 1 ≤ k) (h2 : k < r0.length) : udm (Txt.upper (hostOf r)) (rungF r0 k) = (namedF (lowR r0) && !badAt (lowR r0) k (lowR r)) :=
  udm_take h hr h1 h2 _ (low_rungF h k)
def comT (r0 : List Str) (rs : List (List Str)) : Str := Str.ofString "." ++ hostOf ((lowR r0).take (dSize r0 rs))
theorem low_comT (h : LR r0 rs) : Txt.lower (comT r0 rs) = comT r0 rs := by
  unfold comT
  rw [low_rung (fun x hx => (h.all r0 (.head _)).low.g x (List.mem_of_mem_take hx)), low_take, lowR_low (h.all r0 (.head _)).g]
theorem LR.under (h : LR r0 rs) {r : List Str} (hr : r ∈ r0 :: rs) : udm (Txt.upper (hostOf r)) (comT r0 rs) = (namedF (lowR r0) && decide ((dSize r0 rs : Int) > 0)) := by
  obtain ⟨z1, z2, _⟩ := h.size
  have hpos := h.pos
  by_cases hz : dSize r0 rs = 0
  · have hll : lowR (lowR r) = lowR r := lowR_low (h.all r hr).g
    have e1 : Txt.lower (Txt.upper (hostOf r)) = Txt.lower (Txt.upper (hostOf (lowR r))) := by rw [low_up_host (h.all r hr).g, low_up_host (h.all r hr).low.g, hll]
    rw [udm_low e1 rfl]
    unfold comT
    rw [hz]
    rw [show (lowR r0).take 0 = [] by simp, udm_nil (h.all r hr).low hll]
    simp
  · rw [udm_take h hr (k := dSize r0 rs) (by omega) (by omega) _ (low_comT h), any_false z2 hr, decide_eq_true (by omega)]; rfl
theorem LR.same (h : LR r0 rs) {r : List Str} (hr : r ∈ r0 :: rs) : udm (Txt.upper (hostOf r)) (hostOf r0) = (lowR r == lowR r0) := udm_same (h.all r hr) (h.all r0 (.head _))
theorem LR.reach (h : LR r0 rs) {j : Nat} (h1 : 1 ≤ j) (h2 : j ≤ r0.length) : reachF (hostOf (r0.take j)) = if (namedF (lowR r0) && decide (leastF r0 ≤ j - 1)) = true then rungF r0 (j - 1) else hostOf (r0.take j) := by
  have hT := (h.all r0 (.head _)).take h1
  rw [reach_host hT, low_take, head_take h1]
  have hl : (r0.take j).length = j := by rw [List.length_take]; omega
  have e : leastF (r0.take j) = leastF r0 := by
    obtain ⟨j, rfl⟩ : ∃ i, j = i + 1 := ⟨j - 1, by omega⟩
    cases r0 <;> rfl
  have e2 : (r0.take j).take (j - 1) = r0.take (j - 1) := by rw [List.take_take, Nat.min_eq_left (by omega)]
  rw [hl, e, e2]; rfl
theorem rung_ne (h : LR r0 rs) {j k : Nat} (h1 : 1 ≤ j) : (cl (rungF r0 k) == cl (hostOf (r0.take j))) = false := by
  obtain ⟨c, l, hc, hn⟩ := host_head ((h.all r0 (.head _)).take h1)
  rw [rung_eq, rung_cl, hc, beq_eq_false_iff_ne]
  intro e; injection e with e _; exact hn e.symm
theorem rung_cut (r : List Str) : slS (Str.ofString "." ++ hostOf r) (some 1) none = hostOf r := by
  have hl : 1 ≤ (Str.ofString "." ++ hostOf r).length := by rw [← cl_len, rung_cl]; simp
  rw [show (some (1 : Int)) = some ((1 : Nat) : Int) from rfl, slS_from hl, rung_cl]
  exact mk_cl _
theorem path_cut (T : List Str) (h : ∀ x ∈ T, good x = true) : Txt.join (Str.ofString ".") (Txt.split (slS (pathOf T) (some 1) none) (Str.ofString "/")).reverse = hostOf T ∧ (slS (pathOf T) (some 1) none).length ≤ (pathOf T).length ∧
    ∀ x ∈ (Txt.split (slS (pathOf T) (some 1) none) (Str.ofString "/")).reverse, x.length ≤ 8 := by
  have hl : 1 ≤ (pathOf T).length := by rw [← cl_len, path_cl]; simp
  have e : slS (pathOf T) (some 1) none = mk (jl 47 (T.map cl)) := by
    rw [show (some (1 : Int)) = some ((1 : Nat) : Int) from rfl, slS_from hl, path_cl]; rfl
  refine ⟨?_, slS_le _ _ _, ?_⟩
  all_goals rw [e]
  all_goals by_cases hT : T = []
  · subst hT
    have e2 : mk (jl 47 (([] : List Str).map cl)) = Str.join (mk [47]) [mk []] := rfl
    rw [e2, ofs_slash, split_join 47 (by simp) (by intro p hp; rw [show p = mk [] by simpa using hp]; simp [cl_mk])]
    unfold hostOf
    rw [txt_join, txt_join]; rfl
  · have e2 : mk (jl 47 (T.map cl)) = Str.join (mk [47]) T := by apply cl_inj; rw [cl_join]; rfl
    rw [e2, ofs_slash, split_join 47 hT (fun p hp => (Gd.of (h p hp)).n47)]; rfl
  · subst hT
    have e2 : mk (jl 47 (([] : List Str).map cl)) = Str.join (mk [47]) [mk []] := rfl
    rw [e2, ofs_slash, split_join 47 (by simp) (by intro p hp; rw [show p = mk [] by simpa using hp]; simp [cl_mk])]
    intro x hx
    have : x = mk [] := by simpa using hx
    rw [this]; exact Nat.zero_le _
  · have e2 : mk (jl 47 (T.map cl)) = Str.join (mk [47]) T := by apply cl_inj; rw [cl_join]; rfl
    rw [e2, ofs_slash, split_join 47 hT (fun p hp => (Gd.of (h p hp)).n47)]
    intro x hx
    have := (Gd.of (h x (List.mem_reverse.mp hx))).len
    rw [cl_len] at this; exact this
/-! the rows are such -/
theorem labF_len2 : ∀ (f a b n l : Nat), n < 8 ^ a → l ≤ b → (labF f n l).length ≤ max a b
  | 0, _, _, _, _, _, _ => Nat.zero_le _
  | f + 1, a, b, n, l, hn, hl => by
    show (if 0 < n ∨ 0 < l then word n :: labF f (n / 8) (l - 1) else []).length ≤ _
    split
    · rename_i hc
      rw [List.length_cons]
      cases a with
      | zero =>
        have hn0 : n = 0 := by simpa using hn
        have := labF_len2 f 0 (b - 1) (n / 8) (l - 1) (by rw [hn0]; decide) (by omega)
        omega
      | succ a =>
        have h8 : n / 8 < 8 ^ a := by rw [Nat.div_lt_iff_lt_mul (by decide)]; rw [Nat.pow_succ] at hn; exact hn
        have := labF_len2 f a (b - 1) (n / 8) (l - 1) h8 (by omega)
        omega
    · simp
theorem word_mem (n : Nat) : word n ∈ wordsL := by
  unfold word
  have h8 : n % 8 < wordsL.length := Nat.mod_lt _ (by decide)
  rw [List.getD_eq_getElem?_getD, List.getElem?_eq_getElem h8]
  exact List.getElem_mem h8
theorem labF_mem : ∀ (f n l : Nat), ∀ x ∈ labF f n l, x ∈ wordsL
  | 0, _, _, x, h => by cases h
  | f + 1, n, l, x, h => by
    have h' : x ∈ (if 0 < n ∨ 0 < l then word n :: labF f (n / 8) (l - 1) else []) := h
    split at h'
    · rcases List.mem_cons.mp h' with rfl | h'
      · exact word_mem n
      · exact labF_mem f _ _ x h'
    · cases h'
theorem labs_good {n l : Nat} : ∀ x ∈ labs n l, good x = true := fun x hx => words_good x (labF_mem _ _ _ x hx)
theorem labs_ne {n l : Nat} (h : 0 < l) : labs n l ≠ [] := by rw [labs_more (.inr h)]; simp
theorem row0_rw {f : Nat} (h : f < 32768) : Rw (row0 f) := ⟨labs_ne (by omega), by
    have := labF_len2 (f + (5 - f % 5)) 5 5 f (5 - f % 5) (by omega) (by omega)
    unfold row0 labs; omega, labs_good⟩
theorem rowN_rw {r : List Str} (h : Rw r) (x : Int) : Rw (rowN r x) := by
  have hm : x.natAbs % 2560 < 2560 := Nat.mod_lt _ (by decide)
  have hl : (labs ((x.natAbs % 2560) / 5) 1).length ≤ 3 := by
    have := labF_len2 ((x.natAbs % 2560) / 5 + 1) 3 1 ((x.natAbs % 2560) / 5) 1 (by omega) (by omega)
    unfold labs; omega
  refine ⟨?_, ?_, ?_⟩
  · unfold rowN
    intro e
    exact labs_ne (by decide) (List.append_eq_nil_iff.mp e).2
  · unfold rowN
    rw [List.length_append, List.length_take]; omega
  · intro y hy
    rcases List.mem_append.mp hy with hy | hy
    · exact h.g y (List.mem_of_mem_take hy)
    · exact labs_good y hy
theorem rows_lr (ns : List Int) : LR (row0 (firstOf ns)) (((numsOf ns).drop 1).map (rowN (row0 (firstOf ns)))) := by
  have h0 := row0_rw (f := firstOf ns) (Nat.mod_lt _ (by decide))
  refine ⟨fun r hr => ?_, ?_⟩
  · rcases List.mem_cons.mp hr with rfl | hr
    · exact h0
    · obtain ⟨x, _, rfl⟩ := List.mem_map.mp hr
      exact rowN_rw h0 x
  · have : (numsOf ns).length ≤ 5 := by unfold numsOf; split <;> simp; omega
    rw [List.length_cons, List.length_map, List.length_drop]; omega
end Mine
end PdZ7Part
section PdYPart
open PySem PySem.W PyProof.Rows
namespace Mine
noncomputable section
local macro_rules | `(tactic| walk_at "ev1") => `(tactic| first
  | with_reducible apply Ev.str
  | with_reducible apply Ev.int
  | with_reducible apply Ev.bool
  | ((with_reducible refine' Ev.name ?k1 ?k2 ?k3 ?k4); (case k1 => first | assumption | exact envC (by assumption) rfl | exact envC (envC (by assumption) rfl) rfl); (case k2 => rfl); (case k3 => rfl); (case k4 => rfl))
  | ((with_reducible refine' Ev.nameT ?k1 ?k2 ?k3 ?k4 ?k5 ?k6); (case k2 => rfl); (case k3 => rfl); (case k1 => first | assumption | exact envC (by assumption) rfl | exact envC (envC (by assumption) rfl) rfl); (case k4 => decide); (case k5 => rfl); (case k6 => rfl))
  | with_reducible refine' Ev.tuple ?_ ?_
  | with_reducible refine' Ev.list ?_ ?_
  | with_reducible refine' Ev.bin ?_ ?_ ?_
  | with_reducible refine' Ev.neg ?_
  | ((with_reducible refine' Ev.cmp ?_ ?_ ?_ ?k4); (case k4 => rfl))
  | ((with_reducible refine' Tr.cmp ?_ ?_ ?_ ?k4); (case k4 => rfl))
  | with_reducible refine' Tr.not ?_
  | with_reducible apply Evs.nil
  | ((with_reducible refine' Evs.cons ?_ ?_ ?k3); (case k3 => rfl))
  | with_reducible apply Part.none
  | with_reducible refine' Part.some ?_
  | with_reducible refine' Ev.slice2 ?_ ?_ ?_ ?_
  | with_reducible refine' Ev.slice3 ?_ ?_ ?_ ?_ ?_ ?_
  | with_reducible refine' Ev.item ?_ ?_ ?_
  | ((with_reducible refine' Ev.methS ?_ ?_ ?k3 ?_ ?k5 ?k6); (case k3 => rfl); (case k5 => rfl); (case k6 => rfl))
  | ((with_reducible refine' Ev.call ?k1 ?k2 ?k3 ?k4 ?k5 ?_ ?k7 ?_ ?k9); (case k2 => rfl); (case k1 => first | assumption | exact envC (by assumption) rfl | exact envC (envC (by assumption) rfl) rfl); (case k3 => rfl); (case k4 => rfl); (case k5 => rfl); (case k7 => rfl); (case k9 => rfl))
  | ((with_reducible refine' Ev.callB ?k1 ?k2 ?k3 ?k4 ?k5 ?_ ?k7 ?_ ?k9); (case k2 => rfl); (case k3 => rfl); (case k1 => first | assumption | exact envC (by assumption) rfl | exact envC (envC (by assumption) rfl) rfl); (case k4 => decide); (case k5 => rfl); (case k7 => rfl); (case k9 => rfl))
  | ((with_reducible refine' Ev.callT ?k1 ?k2 ?k3 ?k4 ?k5 ?_ ?k7 ?_ ?k9); (case k2 => rfl); (case k3 => rfl); (case k1 => first | assumption | exact envC (by assumption) rfl | exact envC (envC (by assumption) rfl) rfl); (case k4 => decide); (case k5 => rfl); (case k7 => rfl); (case k9 => rfl)))
local macro_rules | `(tactic| walk_at "srch") => `(tactic| ((refine' Tr.search (by assumption) ?g1 ?g2 ?g3 ?g4 ?ha ?hz ?g7 ?g8 ?g9 ?g10); (case g1 => rfl); (case g2 => rfl); (case g3 => rfl); (case g4 => rfl); (case g7 => rfl); (case g8 => rfl); (case g9 => rfl); (case g10 => (intro _; rfl)); (case ha => walk_at "ev1"); (case hz => omega)))

theorem at201 (P : Params) : FnAt (hd.heap_39 P) 201 (fdOf P 201) (bodyOf P 201) := ⟨⟨_, rfl, rfl⟩, by rfl, rfl, rfl, rfl, rfl, rfl, rfl, rfl⟩
theorem bind201 (P : Params) (v : Value) : bindArgs (fdOf P 201) ⟨[v], []⟩ = pure [(Str.ofString "script", v)] := by kernel_rfl
theorem biFn {c : Cx} {w : World} {k : Nat} {a : Addr} {ds : List D} {d : D} (hw : c.prog = PR ∧ c.w = w ∧ c.K = hd.heap_39 w.params) (f : Fn PR w (hd.heap_39 w.params) k a ds d) (room : Room c.A k) : Bi c (.ref a) ds d := by
  obtain ⟨prog, w', A, K, env, mu, rho, ow, pin, dat⟩ := c
  obtain ⟨h1, h2, h3⟩ := hw
  dsimp only at h1 h2 h3
  subst h1; subst h2; subst h3
  exact Fn.bi f room
theorem fnPath (w : World) {r : List Str} (h : Rw r) : Fn PR w (hd.heap_39 w.params) 21 191 [.str (hostOf r)] (.str (pathOf (lowR r))) := by
  have hs := h.low.sm
  have e : (Txt.split (Txt.lower (hostOf r)) (Str.ofString ".")).reverse = lowR r := by rw [low_host h.g, split_host h.low, List.reverse_reverse]
  rw [← asPath_host h]
  refine fn191 w (hostOf r) ?_ ?_ ?_
  · rw [low_host h.g]; have := host_len hs; omega
  · rw [e]; exact hs.joinOk slash_len
  · rw [e]; have := hs.joinLen slash_len; omega
theorem fnDir (w : World) {l : List Str} (h : Rw l) : Fn PR w (hd.heap_39 w.params) 31 165 [.str (pathOf l)] (.str (pathOf l.dropLast)) := by
  have hl : l.dropLast ++ [l.getLast h.ne] = l := List.dropLast_concat_getLast h.ne
  have e : dirF (pathOf l) = pathOf l.dropLast := by
    have := dir_path (l := l.dropLast) (a := l.getLast h.ne) (by rw [hl]; exact h.g) (by rw [hl]; exact h.sm)
    rw [hl] at this; exact this
  rw [← e]
  exact fn165 w (pathOf l) (by have := path_len h.sm; omega)
theorem up_len {r : List Str} (h : Rw r) : (Txt.upper (hostOf r)).length ≤ 100 := by
  rw [← cl_len, up_cl (host_asc h.g), List.length_map, cl_len]; have := host_len h.sm; omega
theorem low_up_len {r : List Str} (h : Rw r) : (Txt.lower (Txt.upper (hostOf r))).length ≤ 1000 := by
  rw [low_up_host h.g]; have := host_len h.low.sm; omega
theorem fnUdm (w : World) {r : List Str} (h : Rw r) {y : Str} (hy : (Txt.lower y).length ≤ 1000) : Fn PR w (hd.heap_39 w.params) 31 64 [.str (Txt.upper (hostOf r)), .str y] (.bool (udm (Txt.upper (hostOf r)) y)) := fn64 w _ y (low_up_len h) hy
section
variable (r0 : List Str) (rs : List (List Str))
def rungsUp (j : Nat) : List Str := (List.range (r0.length - j)).map fun i => rungF r0 (r0.length - 1 - i)
def foundF (j : Nat) : Bool := decide (j < r0.length) && !(((r0 :: rs).map lowR).any (badAt (lowR r0) j))
structure Inv (j : Nat) : Prop where
  lo : 1 ≤ j
  hi : j ≤ r0.length
  nm : j < r0.length → namedF (lowR r0) = true ∧ leastF r0 ≤ j
  bad : ∀ k, j < k → k < r0.length → ((r0 :: rs).map lowR).any (badAt (lowR r0) k) = true
def goOn (j : Nat) : Bool := (namedF (lowR r0) && decide (leastF r0 ≤ j - 1)) && !foundF r0 rs j
end
section
variable {r0 : List Str} {rs : List (List Str)}
theorem Inv.start (h : LR r0 rs) : Inv r0 rs r0.length := ⟨h.pos, Nat.le_refl _, fun q => absurd q (Nat.lt_irrefl _), fun k h1 h2 => by omega⟩
theorem Inv.next {j : Nat} (h : Inv r0 rs j) (hg : goOn r0 rs j = true) : Inv r0 rs (j - 1) ∧ namedF (lowR r0) = true ∧ leastF r0 ≤ j - 1 ∧ 1 ≤ j - 1 := by
  unfold goOn at hg
  rw [Bool.and_eq_true, Bool.and_eq_true, decide_eq_true_iff] at hg
  obtain ⟨⟨h1, h2⟩, h3⟩ := hg
  have hl := (least_le r0).1
  have hlo := h.lo
  have hhi := h.hi
  refine ⟨⟨by omega, by omega, fun _ => ⟨h1, h2⟩, fun k q1 q2 => ?_⟩, h1, h2, by omega⟩
  by_cases hk : k = j
  · subst hk
    unfold foundF at h3
    rw [decide_eq_true q2, Bool.true_and, Bool.not_not] at h3
    exact h3
  · exact h.bad k (by omega) q2
theorem rungsUp_snoc {j : Nat} (h1 : 1 ≤ j) (h2 : j ≤ r0.length) : rungsUp r0 j ++ [rungF r0 (j - 1)] = rungsUp r0 (j - 1) := by
  unfold rungsUp
  rw [show r0.length - (j - 1) = (r0.length - j) + 1 by omega, List.range_succ, List.map_append]
  show _ = _ ++ [rungF r0 (r0.length - 1 - (r0.length - j))]
  rw [show r0.length - 1 - (r0.length - j) = j - 1 by omega]
theorem exit_facts (h : LR r0 rs) {j : Nat} (hI : Inv r0 rs j) (hg : goOn r0 rs j = false) : rungsUp r0 j = dRungs r0 rs ∧ foundF r0 rs j = dFound r0 rs := by
  obtain ⟨z1, z2, z3⟩ := h.size
  obtain ⟨lo, hi, hnm, hbad⟩ := hI
  have hl := least_le r0
  have hp := h.pos
  unfold goOn at hg
  unfold dFound dRungs rungsF
  cases hn : namedF (lowR r0) with
  | false =>
    have hj : j = r0.length := by
      refine Nat.le_antisymm hi (Nat.le_of_not_lt fun q => ?_)
      rw [(hnm q).1] at hn; cases hn
    subst hj
    unfold rungsUp foundF
    simp
  | true =>
    rw [if_pos rfl]
    rw [hn, Bool.true_and] at hg
    cases hf : foundF r0 rs j with
    | true =>
      unfold foundF at hf
      rw [Bool.and_eq_true, decide_eq_true_iff, Bool.not_eq_true'] at hf
      obtain ⟨f1, f2⟩ := hf
      have hs : dSize r0 rs = j := by
        rcases Nat.lt_trichotomy (dSize r0 rs) j with q | q | q
        · have := z3 j q (by omega); rw [f2] at this; cases this
        · exact q
        · have := hbad _ q (by omega); rw [z2] at this; cases this
      have hle := (hnm f1).2
      rw [hs, Nat.max_eq_left hle]
      refine ⟨rfl, ?_⟩
      rw [List.length_map, List.length_range, decide_eq_true (show (j : Int) ≥ (leastF r0 : Int) by omega), Bool.and_true, eq_comm, bne_iff_ne]
      omega
    | false =>
      rw [hf, Bool.not_false, Bool.and_true, decide_eq_false_iff_not] at hg
      have hslt : dSize r0 rs < leastF r0 := by
        refine Nat.lt_of_not_le fun q => ?_
        rcases Nat.lt_trichotomy (dSize r0 rs) j with q1 | q1 | q1
        · omega
        · unfold foundF at hf
          rw [← q1, z2, Bool.not_false, Bool.and_true, decide_eq_false_iff_not] at hf
          omega
        · have := hbad _ q1 (by omega); rw [z2] at this; cases this
      rw [Nat.max_eq_right (Nat.le_of_lt hslt)]
      have hd : decide ((dSize r0 rs : Int) ≥ (leastF r0 : Int)) = false := decide_eq_false (by omega)
      rw [hd, Bool.and_false]
      refine ⟨?_, rfl⟩
      unfold rungsUp
      by_cases hjn : j < r0.length
      · have := (hnm hjn).2
        rw [show j = leastF r0 by omega]
      · rw [show r0.length - j = 0 by omega, show r0.length - leastF r0 = 0 by omega]
end
end
end Mine
end PdYPart
section PdY2Part
open PySem PySem.W PyProof.Rows
namespace Mine
noncomputable section
local macro_rules | `(tactic| walk_at "ev1") => `(tactic| first
  | with_reducible apply Ev.str
  | with_reducible apply Ev.int
  | with_reducible apply Ev.bool
  | ((with_reducible refine' Ev.name ?k1 ?k2 ?k3 ?k4); (case k1 => first | assumption | exact envC (by assumption) rfl | exact envC (envC (by assumption) rfl) rfl); (case k2 => rfl); (case k3 => rfl); (case k4 => rfl))
  | ((with_reducible refine' Ev.nameT ?k1 ?k2 ?k3 ?k4 ?k5 ?k6); (case k2 => rfl); (case k3 => rfl); (case k1 => first | assumption | exact envC (by assumption) rfl | exact envC (envC (by assumption) rfl) rfl); (case k4 => decide); (case k5 => rfl); (case k6 => rfl))
  | with_reducible refine' Ev.tuple ?_ ?_
  | with_reducible refine' Ev.list ?_ ?_
  | with_reducible refine' Ev.bin ?_ ?_ ?_
  | with_reducible refine' Ev.neg ?_
  | ((with_reducible refine' Ev.cmp ?_ ?_ ?_ ?k4); (case k4 => rfl))
  | ((with_reducible refine' Tr.cmp ?_ ?_ ?_ ?k4); (case k4 => rfl))
  | with_reducible refine' Tr.not ?_
  | with_reducible apply Evs.nil
  | ((with_reducible refine' Evs.cons ?_ ?_ ?k3); (case k3 => rfl))
  | with_reducible apply Part.none
  | with_reducible refine' Part.some ?_
  | with_reducible refine' Ev.slice2 ?_ ?_ ?_ ?_
  | with_reducible refine' Ev.slice3 ?_ ?_ ?_ ?_ ?_ ?_
  | with_reducible refine' Ev.item ?_ ?_ ?_
  | ((with_reducible refine' Ev.methS ?_ ?_ ?k3 ?_ ?k5 ?k6); (case k3 => rfl); (case k5 => rfl); (case k6 => rfl))
  | ((with_reducible refine' Ev.call ?k1 ?k2 ?k3 ?k4 ?k5 ?_ ?k7 ?_ ?k9); (case k2 => rfl); (case k1 => first | assumption | exact envC (by assumption) rfl | exact envC (envC (by assumption) rfl) rfl); (case k3 => rfl); (case k4 => rfl); (case k5 => rfl); (case k7 => rfl); (case k9 => rfl))
  | ((with_reducible refine' Ev.callB ?k1 ?k2 ?k3 ?k4 ?k5 ?_ ?k7 ?_ ?k9); (case k2 => rfl); (case k3 => rfl); (case k1 => first | assumption | exact envC (by assumption) rfl | exact envC (envC (by assumption) rfl) rfl); (case k4 => decide); (case k5 => rfl); (case k7 => rfl); (case k9 => rfl))
  | ((with_reducible refine' Ev.callT ?k1 ?k2 ?k3 ?k4 ?k5 ?_ ?k7 ?_ ?k9); (case k2 => rfl); (case k3 => rfl); (case k1 => first | assumption | exact envC (by assumption) rfl | exact envC (envC (by assumption) rfl) rfl); (case k4 => decide); (case k5 => rfl); (case k7 => rfl); (case k9 => rfl)))
local macro_rules | `(tactic| walk_at "srch") => `(tactic| ((refine' Tr.search (by assumption) ?g1 ?g2 ?g3 ?g4 ?ha ?hz ?g7 ?g8 ?g9 ?g10); (case g1 => rfl); (case g2 => rfl); (case g3 => rfl); (case g4 => rfl); (case g7 => rfl); (case g8 => rfl); (case g9 => rfl); (case g10 => (intro _; rfl)); (case ha => walk_at "ev1"); (case hz => omega)))

abbrev hostsOf (r0 : List Str) (rs : List (List Str)) : List Str := (r0 :: rs).map hostOf
abbrev c201 (w : World) (A : Around) (L : Addr) (mu : List Addr) (ns : List Int) (r0 : List Str) (rs : List (List Str)) : Cx :=
  ((cxOf PR w A (hd.heap_39 w.params) (fdOf w.params 201) L 201 mu (rho1 (Str.ofString "script") (.list (ns.map D.int)))).set (Str.ofString "rows") (.list ((r0 :: rs).map dRow))).set (Str.ofString "hosts") (dRow (hostsOf r0 rs))
abbrev f201 (w : World) (A : Around) (L : Addr) (mu : List Addr) (ns : List Int) (r0 : List Str) (rs : List (List Str)) (r : Addr) (j : Nat) : Cx :=
  (((((c201 w A L mu ns r0 rs).own (Str.ofString "rungs") r ((rungsUp r0 j).map D.str)).set (Str.ofString "found") (.bool (foundF r0 rs j))).set (Str.ofString "place") (.str (pathOf ((lowR r0).take j)))).set (Str.ofString "here") (.str (hostOf (r0.take j)))).set (Str.ofString "domain") (.str (reachF (hostOf (r0.take j))))
def joinD (d : D) : D := match d with | .list ds => .str (hostOf (ds.map (fun e => match e with | .str x => x | _ => Str.ofString ""))) | _ => .none
theorem joinD_row (r : List Str) : joinD (dRow r) = .str (hostOf r) := by
  have e : (r.map D.str).map (fun e => match e with | .str x => x | _ => Str.ofString "") = r := by
    rw [List.map_map]; exact List.map_id r
  show D.str (hostOf ((r.map D.str).map (fun e => match e with | .str x => x | _ => Str.ofString ""))) = _
  rw [e]
def noD (y : Str) (d : D) : Bool := match d with | .str x => !udm (Txt.upper x) y | _ => false
def udmD (y : Str) (d : D) : D := match d with | .str x => .bool (udm (Txt.upper x) y) | _ => .none
def pathD (d : D) : D := match d with | .str x => .str (dirF (asPath x)) | _ => .none
theorem goOn_eq {r0 : List Str} {rs : List (List Str)} (h : LR r0 rs) {j : Nat} (h1 : 1 ≤ j) (h2 : j ≤ r0.length) : ((reachF (hostOf (r0.take j))).cps.toList != (hostOf (r0.take j)).cps.toList) = (namedF (lowR r0) && decide (leastF r0 ≤ j - 1)) := by
  rw [h.reach h1 h2]
  cases namedF (lowR r0) && decide (leastF r0 ≤ j - 1) with
  | true =>
    rw [if_pos rfl]
    show (!(cl (rungF r0 (j - 1)) == cl (hostOf (r0.take j)))) = true
    rw [rung_ne h h1]; rfl
  | false =>
    rw [if_neg (by decide)]
    show (!(cl (hostOf (r0.take j)) == cl (hostOf (r0.take j)))) = false
    rw [beq_self_eq_true]; rfl
theorem rung_len {r0 : List Str} {rs : List (List Str)} (h : LR r0 rs) (k : Nat) : (rungF r0 k).length ≤ 73 := by
  have h1 := host_len ((h.all r0 (.head _)).sm.take k)
  rw [rung_eq, ← cl_len, rung_cl, List.length_cons, cl_len]; omega
theorem low_rung_len {r0 : List Str} {rs : List (List Str)} (h : LR r0 rs) (k : Nat) : (Txt.lower (rungF r0 k)).length ≤ 1000 := by
  rw [low_rungF h, ← cl_len, rung_cl, List.length_cons, cl_len]
  have := host_len (Sm.lowTake h k); omega
theorem fnPathR (w : World) {r0 : List Str} {k : Nat} (h : Rw (r0.take k)) : Fn PR w (hd.heap_39 w.params) 21 191 [.str (slS (rungF r0 k) (some 1) none)] (.str (pathOf ((lowR r0).take k))) := by
  rw [rung_eq, rung_cut, ← low_take]; exact fnPath w h
theorem drop_take (l : List Str) {j : Nat} (h1 : 1 ≤ j) (h2 : j ≤ l.length) : (l.take j).dropLast = l.take (j - 1) := by
  rw [List.dropLast_eq_take, List.take_take, List.length_take]
  congr 1; omega
theorem dirAs {r : List Str} (h : Rw r) : dirF (asPath (hostOf r)) = pathOf (dl r) := by
  rw [asPath_host h]
  have hl : (lowR r).dropLast ++ [(lowR r).getLast h.low.ne] = lowR r := List.dropLast_concat_getLast h.low.ne
  have := dir_path (l := (lowR r).dropLast) (a := (lowR r).getLast h.low.ne) (by rw [hl]; exact h.low.g) (by rw [hl]; exact h.low.sm)
  rw [hl] at this; exact this
theorem path_sm {T : List Str} (h : ∀ x ∈ T, good x = true) (hs : Sm T) : Sm (Txt.split (slS (pathOf T) (some 1) none) (Str.ofString "/")) := by
  have hl : 1 ≤ (pathOf T).length := by rw [← cl_len, path_cl]; simp
  have e : slS (pathOf T) (some 1) none = mk (jl 47 (T.map cl)) := by
    rw [show (some (1 : Int)) = some ((1 : Nat) : Int) from rfl, slS_from hl, path_cl]; rfl
  rw [e]
  by_cases hT : T = []
  · subst hT
    have e2 : mk (jl 47 (([] : List Str).map cl)) = Str.join (mk [47]) [mk []] := rfl
    rw [e2, ofs_slash, split_join 47 (by simp) (by intro p hp; rw [show p = mk [] by simpa using hp]; simp [cl_mk])]
    exact ⟨by simp, fun t ht => by rw [show t = mk [] by simpa using ht]; exact Nat.zero_le _⟩
  · have e2 : mk (jl 47 (T.map cl)) = Str.join (mk [47]) T := by apply cl_inj; rw [cl_join]; rfl
    rw [e2, ofs_slash, split_join 47 hT (fun p hp => (Gd.of (h p hp)).n47)]; exact hs
theorem found_eq {r0 : List Str} {rs : List (List Str)} (h : LR r0 rs) {k : Nat} (h1 : 1 ≤ k) (h2 : k < r0.length) (hn : namedF (lowR r0) = true) : (((((hostsOf r0 rs).map D.str).filter (noD (rungF r0 k))).map id).length == 0) = foundF r0 rs k := by
  have e := any_filter (noD (rungF r0 k)) ((hostsOf r0 rs).map D.str)
  rw [List.map_id]
  unfold foundF
  rw [decide_eq_true h2, Bool.true_and]
  have e2 : ((hostsOf r0 rs).map D.str).any (noD (rungF r0 k)) = ((r0 :: rs).map lowR).any (badAt (lowR r0) k) := by
    have key : ∀ r ∈ r0 :: rs, (noD (rungF r0 k) (.str (hostOf r))) = badAt (lowR r0) k (lowR r) := fun r hr => by
      show (!udm (Txt.upper (hostOf r)) (rungF r0 k)) = _
      rw [h.match_ hr h1 h2, hn, Bool.true_and, Bool.not_not]
    generalize noD (rungF r0 k) = f at key ⊢
    generalize badAt (lowR r0) k = g at key ⊢
    unfold hostsOf
    generalize r0 :: rs = l at key ⊢
    induction l with
    | nil => rfl
    | cons a l ih =>
      rw [List.map_cons, List.map_cons, List.any_cons, List.map_cons, List.any_cons, key a (.head _), ih fun r hr => key r (.tail _ hr)]
  rw [← e2, ← e]
  cases ((hostsOf r0 rs).map D.str).filter (noD (rungF r0 k)) <;> rfl
abbrev c201b (w : World) (A : Around) (L : Addr) (mu : List Addr) (ns : List Int) (r0 : List Str) (rs : List (List Str)) : Cx :=
  (((c201 w A L mu ns r0 rs).set (Str.ofString "found") (.bool (dFound r0 rs))).set (Str.ofString "rungs") (dRow (dRungs r0 rs)))
abbrev c201c (w : World) (A : Around) (L : Addr) (mu : List Addr) (ns : List Int) (r0 : List Str) (rs : List (List Str)) : Cx :=
  (((c201b w A L mu ns r0 rs).set (Str.ofString "shared") (.str (dShared r0 rs))).set (Str.ofString "common") (.str (comT r0 rs)))
abbrev c201d (w : World) (A : Around) (L : Addr) (mu : List Addr) (ns : List Int) (r0 : List Str) (rs : List (List Str)) : Cx :=
  ((c201c w A L mu ns r0 rs).set (Str.ofString "under") (.list ((dUnder r0 rs).map D.bool)))
theorem udm_map {r0 : List Str} {rs : List (List Str)} (y : Str) (g : List Str → Bool) (h : ∀ r ∈ r0 :: rs, udm (Txt.upper (hostOf r)) y = g r) : (((hostsOf r0 rs).map D.str).filter fun _ => true).map (udmD y) = ((r0 :: rs).map g).map D.bool := by
  rw [filter_true]
  unfold hostsOf
  rw [List.map_map, List.map_map, List.map_map]
  refine List.map_congr_left fun r hr => ?_
  show D.bool (udm (Txt.upper (hostOf r)) y) = D.bool (g r)
  rw [h r hr]
theorem path_map {r0 : List Str} {rs : List (List Str)} (h : LR r0 rs) : (((hostsOf r0 rs).map D.str).filter fun _ => true).map pathD = (pathsOf r0 rs).map D.str := by
  rw [filter_true]
  unfold hostsOf pathsOf
  rw [List.map_map, List.map_map, List.map_map]
  refine List.map_congr_left fun r hr => ?_
  show D.str (dirF (asPath (hostOf r))) = D.str (pathOf (dl r))
  rw [dirAs (h.all r hr)]
set_option maxHeartbeats 8000000 in
theorem body201 (w : World) (ns : List Int) (hns : ns.length ≤ 63) :
    BodyDoes PR w (hd.heap_39 w.params) 60 201 (fdOf w.params 201) (bodyOf w.params 201) (rho1 (Str.ofString "script") (.list (ns.map D.int))) (.bool true) := by
  refine ⟨?_⟩
  intro A L mu s₀ s Q E room gl st h
  have ok := st.ok
  have hlr := rows_lr ns
  show wpAny _ _ (execs (.Assign [.Name _ _] _ _ :: .Assign [.Name _ _] (.ListComp _ [⟨.Name _ _, _, [], 0⟩] _ _) _ :: .Assign [.Name _ _] (.List [] _) _ :: .Assign [.Name _ _] _ _ :: .Assign [.Name _ _] _ _ :: .Assign [.Name _ _] _ _ :: .Assign [.Name _ _] _ _ :: .While _ _ [] _ :: .Assign [.Name _ _] _ _ :: .Assign [.Name _ _] _ _ :: .Assign [.Name _ _] (.ListComp _ [⟨.Name _ _, _, [], 0⟩] _ _) _ :: .Assign [.Name _ _] (.ListComp _ [⟨.Name _ _, _, [], 0⟩] _ _) _ :: .Return (some _) _ :: []) _) _ _ _
  refine' st.assign gl (d := .list ((rowsOf ns).map dRow)) ?a1 (.inl rfl) (fun _ _ _ e => by cases e) rfl ?a2
  case a1 => (repeat' walk_at "ev1"); (any_goals exact biFn ⟨rfl, rfl, rfl⟩ (fn184 w ns hns) (room.le (by omega)))
  intro s1 st1
  unfold rowsOf at st1
  generalize row0 (firstOf ns) = r0 at *
  generalize List.map (rowN r0) (List.drop 1 (numsOf ns)) = rs at *
  have hln := hlr.len
  have hll : ((r0 :: rs).map dRow).length ≤ 100000 := by rw [List.length_map]; omega
  have hsm : ∀ r ∈ r0 :: rs, Sm r := fun r hr => (hlr.all r hr).sm
  refine' st1.assign gl (d := dRow (hostsOf r0 rs)) ?a3 (.inr ⟨rfl, rfl⟩) (fun _ _ _ e => by cases e) rfl ?a4
  case a3 =>
    refine' Ev.eq ?a5 ?a6
    case a5 =>
      refine' Ev.comp (d0 := .list ((r0 :: rs).map dRow)) (src := (r0 :: rs).map dRow) (cl := []) (rf := fun _ => none) (fun _ => true) joinD rfl ?a7 rfl ?a8 rfl ?a9 (Itr.list room.hd) hll Free.zero ?b1 ?b2 (fun _ => rfl)
      case a7 => decide
      case a8 => decide
      case a9 => walk_at "ev1"
      case b1 => intro C Dd I d hd; exact Tests.nil
      case b2 =>
        intro C Dd I d hd _
        obtain ⟨r, hr, rfl⟩ := List.mem_map.mp hd
        rw [joinD_row]
        have hrn : (r.map D.str).length ≤ 100000 := by rw [List.length_map]; have := (hsm r hr).n; omega
        (repeat' walk_at "ev1")
        any_goals exact (by decide : (-1 : Int) ≠ 0)
        any_goals exact hrn
        any_goals exact Bi.joinL (xs := r.reverse) (by rw [pickD_rev, List.map_reverse]) ((hsm r hr).rev.joinOk (by decide +kernel))
    case a6 =>
      rw [filter_true, List.map_map]
      show D.list ((r0 :: rs).map (joinD ∘ dRow)) = D.list (((r0 :: rs).map hostOf).map D.str)
      rw [List.map_map]
      exact congrArg D.list (List.map_congr_left fun r _ => joinD_row r)
  intro s2 st2
  have st2' : St (c201 w A L mu ns r0 rs) s₀ s2 := st2
  refine' st2'.assignOwn (c := c201 w A L mu ns r0 rs) gl (ds := []) Evs.nil (by decide) rfl rfl ?b3
  intro r s3 hr st3
  have hR0 := hlr.all r0 (.head _)
  have hpos := hlr.pos
  have htake : r0.take r0.length = r0 := List.take_length
  have hltake : (lowR r0).take r0.length = lowR r0 := by rw [← low_len]; exact List.take_length
  have hhn : ((hostsOf r0 rs).map D.str).length ≤ 100000 := by rw [List.length_map, List.length_map]; omega
  have hh0 : ((hostsOf r0 rs).map D.str)[(0 : Int).toNat]? = some (.str (hostOf r0)) := rfl
  refine' st3.assign gl (d := .bool false) Ev.bool (.inl rfl) (fun _ _ _ e => by cases e; decide) rfl ?b4
  intro s4 st4
  refine' st4.assign gl (d := .str (pathOf (lowR r0))) ?b5 (.inl rfl) (fun _ _ _ e => by cases e; decide) rfl ?b6
  case b5 =>
    (repeat' walk_at "ev1")
    any_goals exact ItemR.list (by decide) hh0 hhn
    any_goals exact biFn ⟨rfl, rfl, rfl⟩ (fnPath w hR0) (room.le (by omega))
  intro s5 st5
  refine' st5.assign gl (d := .str (hostOf r0)) ?b7 (.inl rfl) (fun _ _ _ e => by cases e; decide) rfl ?b8
  case b7 =>
    (repeat' walk_at "ev1")
    any_goals exact ItemR.list (by decide) hh0 hhn
  intro s6 st6
  have hhl := host_len hR0.sm
  refine' st6.assign gl (d := .str (reachF (hostOf r0))) ?b9 (.inr ⟨rfl, rfl⟩) (fun _ _ _ e => by cases e; decide) rfl ?c1
  case b9 => (repeat' walk_at "ev1"); (any_goals exact biFn ⟨rfl, rfl, rfl⟩ (fn71 w (hostOf r0) (by omega)) (room.le (by omega)))
  intro s7 st7
  have hf0 : foundF r0 rs r0.length = false := by unfold foundF; rw [decide_eq_false (Nat.lt_irrefl _)]; rfl
  have hu0 : rungsUp r0 r0.length = [] := by unfold rungsUp; rw [Nat.sub_self]; rfl
  have st7' : St (f201 w A L mu ns r0 rs r r0.length) s₀ s7 := by
    unfold f201
    rw [hf0, hu0, htake, hltake]
    exact st7
  refine' St.while_ (c := c201 w A L mu ns r0 rs) (f201 w A L mu ns r0 rs r) id (Inv r0 rs) r0.length (fun i => ⟨rfl, rfl, rfl⟩) st7' (Inv.start hlr) ?turn
  intro j hI
  have hRj : Rw (r0.take j) := hR0.take hI.lo
  have okj : EnvOk (f201 w A L mu ns r0 rs r j).env := ok
  refine ⟨goOn r0 rs j, ?_, ?_, ?_⟩
  · refine' Tr.eq (d' := ((reachF (hostOf (r0.take j))).cps.toList != (hostOf (r0.take j)).cps.toList) && !foundF r0 rs j) ?c2 ?c3
    case c2 =>
      refine' Tr.and2 ?c4 (fun _ => ?c5)
      case c4 => (repeat' walk_at "ev1"); (any_goals exact CmpR.neS)
      case c5 =>
        refine' Tr.not ?c6
        refine' Tr.val ?c7 ?c8
        case c8 => intro _; rfl
        case c7 => walk_at "ev1"
    case c3 => rw [goOn_eq hlr hI.lo hI.hi]; rfl
  · intro hg s8 E8 st8
    obtain ⟨hI', hnm, hle, hj1⟩ := hI.next hg
    have hjhi := hI.hi
    have hrch : reachF (hostOf (r0.take j)) = rungF r0 (j - 1) := by rw [hlr.reach hI.lo hI.hi, hnm, decide_eq_true hle]; rfl
    have hRk : Rw (r0.take (j - 1)) := hR0.take hj1
    have hrl := rung_len hlr (j - 1)
    have hlt : j - 1 < r0.length := by omega
    have st9 : St (((((c201 w A L mu ns r0 rs).own (Str.ofString "rungs") r ((rungsUp r0 j).map D.str)).set (Str.ofString "found") (.bool (foundF r0 rs j))).set (Str.ofString "place") (.str (pathOf ((lowR r0).take j)))).set (Str.ofString "here") (.str (hostOf (r0.take j)))|>.set (Str.ofString "domain") (.str (rungF r0 (j - 1)))) s₀ s8 := by
      rw [← hrch]; exact st8
    show wpAny _ _ (execs (.Expr _ _ :: .Assign [.Name _ _] _ _ :: .If _ _ [] _ :: .Assign [.Name _ _] _ _ :: .Assign [.Name _ _] _ _ :: .Assign [.Name _ _] _ _ :: []) _) _ _ _
    refine' st9.append gl (ds := (rungsUp r0 j).map D.str) (d := .str (rungF r0 (j - 1))) rfl rfl rfl ?d1 (by rw [List.length_map]; unfold rungsUp; rw [List.length_map, List.length_range]; have := hR0.n; omega) rfl rfl rfl rfl ?d2
    case d1 => walk_at "ev1"
    intro s9 st10
    refine' st10.assign gl (d := .str (pathOf ((lowR r0).take (j - 1)))) ?d3 (.inl rfl) (fun _ _ _ e => by cases e; decide) rfl ?d4
    case d3 =>
      refine' Ev.eq ?d5 ?d6
      case d5 =>
        (repeat' walk_at "ev1")
        any_goals exact biFn ⟨rfl, rfl, rfl⟩ (fnDir w (l := (lowR r0).take j) (hR0.low.take hI.lo)) (room.le (by omega))
      case d6 => rw [drop_take _ hI.lo (by rw [low_len]; exact hI.hi)]
    intro s10 st11
    refine' st11.if_ (b := false) ?d7 ?d8 ?d9
    case d7 =>
      refine' Tr.eq ?e1 ?e2
      case e1 =>
        (repeat' walk_at "ev1")
        any_goals exact SliceR.str (by omega)
        any_goals exact biFn ⟨rfl, rfl, rfl⟩ (fnPathR w hRk) (room.le (by omega))
        any_goals exact CmpR.neS
      case e2 => simp
    case d8 => intro e; cases e
    case d9 =>
    intro _ s11 st12
    refine wpAny_execs_nil ?_
    refine' st12.assign gl (d := .bool (foundF r0 rs (j - 1))) ?e3 (.inl rfl) (fun _ _ _ e => by cases e; decide) rfl ?e4
    case e3 =>
      refine' Ev.eq ?e5 ?e6
      case e5 =>
        refine' Ev.cmp (d1 := .list ((((hostsOf r0 rs).map D.str).filter (noD (rungF r0 (j - 1)))).map id)) (d2 := .list []) ?e7 (Ev.list Evs.nil (by decide)) (CmpR.eqNil (room.le (by omega))) rfl
        refine' Ev.comp (d0 := dRow (hostsOf r0 rs)) (src := (hostsOf r0 rs).map D.str) (cl := [(Str.ofString "domain", L + 2)]) (rf := rho1 (Str.ofString "domain") (.str (rungF r0 (j - 1)))) (noD (rungF r0 (j - 1))) id rfl ?e8 rfl ?e9 rfl ?f1 (Itr.list room.hd) hhn ?f2 ?f3 ?f4 (fun _ => rfl)
        case e8 => decide
        case e9 => decide
        case f1 => walk_at "ev1"
        case f2 => exact Free.one rfl (fun _ => .inl rfl) (.inl rfl) rfl
        case f3 =>
          intro C Dd I d hd
          obtain ⟨x, hx, rfl⟩ := List.mem_map.mp hd
          obtain ⟨q, hq, rfl⟩ := List.mem_map.mp hx
          have hRq := hlr.all q hq
          have hul := up_len hRq
          refine' Tests.one ?f5
          refine' Tr.not (b := udm (Txt.upper (hostOf q)) (rungF r0 (j - 1))) ?f6
          refine' Tr.val ?f7 ?f8
          case f8 => intro _; rfl
          case f7 =>
            (repeat' walk_at "ev1")
            any_goals exact Bi.upper (by omega)
            any_goals exact biFn ⟨rfl, rfl, rfl⟩ (fnUdm w hRq (low_rung_len hlr (j - 1))) (room.le (by omega))
        case f4 =>
          intro C Dd I d hd _
          walk_at "ev1"
      case e6 => exact congrArg D.bool (found_eq hlr hj1 hlt hnm)
    intro s12 st13
    refine' st13.assign gl (d := .str (hostOf (r0.take (j - 1)))) ?f9 (.inl rfl) (fun _ _ _ e => by cases e; decide) rfl ?g1
    case f9 =>
      refine' Ev.eq ?g2 ?g3
      case g2 => (repeat' walk_at "ev1"); (any_goals exact SliceR.str (by omega))
      case g3 => exact congrArg D.str (rung_cut _)
    intro s13 st14
    have hhk := host_len hRk.sm
    refine' st14.assign gl (d := .str (reachF (hostOf (r0.take (j - 1))))) ?g4 (.inr ⟨rfl, rfl⟩) (fun _ _ _ e => by cases e; decide) rfl ?g5
    case g4 => (repeat' walk_at "ev1"); (any_goals exact biFn ⟨rfl, rfl, rfl⟩ (fn71 w (hostOf (r0.take (j - 1))) (by omega)) (room.le (by omega)))
    intro s14 st15
    refine wpAny_execs_nil ⟨j - 1, by show j - 1 < j; omega, hI', ?_⟩
    have e : (rungsUp r0 j).map D.str ++ [D.str (rungF r0 (j - 1))] = (rungsUp r0 (j - 1)).map D.str := by rw [← rungsUp_snoc hI.lo hI.hi]; simp
    rw [e] at st15
    refine st15.weak _ ?_
    intro z e hz
    generalize reachF (hostOf (r0.take (j - 1))) = vd at hz ⊢
    have hz' : (if z = Str.ofString "domain" then some (D.str vd) else if z = Str.ofString "here" then some (D.str (hostOf (r0.take (j - 1)))) else if z = Str.ofString "place" then some (D.str (pathOf ((lowR r0).take (j - 1)))) else if z = Str.ofString "found" then some (D.bool (foundF r0 rs (j - 1))) else ((c201 w A L mu ns r0 rs).own (Str.ofString "rungs") r ((rungsUp r0 j).map D.str)).rho z) = some e := hz
    show (if z = Str.ofString "domain" then some (D.str vd) else if z = Str.ofString "here" then some (D.str (hostOf (r0.take (j - 1)))) else if z = Str.ofString "found" then some (D.bool (foundF r0 rs (j - 1))) else if z = Str.ofString "place" then some (D.str (pathOf ((lowR r0).take (j - 1)))) else
      (if z = Str.ofString "domain" then _ else if z = Str.ofString "here" then _ else if z = Str.ofString "place" then _ else if z = Str.ofString "found" then _ else ((c201 w A L mu ns r0 rs).own (Str.ofString "rungs") r ((rungsUp r0 j).map D.str)).rho z)) = some e
    by_cases h1 : z = Str.ofString "domain"
    · rw [if_pos h1] at hz' ⊢; exact hz'
    · rw [if_neg h1] at hz' ⊢
      by_cases h2 : z = Str.ofString "here"
      · rw [if_pos h2] at hz' ⊢; exact hz'
      · rw [if_neg h2] at hz' ⊢
        by_cases h3 : z = Str.ofString "place"
        · have h4 : z ≠ Str.ofString "found" := by rw [h3]; decide
          rw [if_pos h3] at hz'; rw [if_neg h4, if_pos h3]; exact hz'
        · rw [if_neg h3] at hz'
          by_cases h4 : z = Str.ofString "found"
          · rw [if_pos h4] at hz' ⊢; exact hz'
          · rw [if_neg h4] at hz' ⊢; rw [if_neg h3, if_neg h1, if_neg h2, if_neg h3, if_neg h4]; exact hz'
  · intro hg s8 st8
    obtain ⟨hx1, hx2⟩ := exit_facts hlr hI hg
    have st9 : St (((c201 w A L mu ns r0 rs).set (Str.ofString "found") (.bool (dFound r0 rs))).own (Str.ofString "rungs") r ((dRungs r0 rs).map D.str)) s₀ s8 := by
      rw [← hx1, ← hx2]
      refine st8.weak _ ?_
      intro z e hz
      have hz' : (if z = Str.ofString "rungs" then none else if z = Str.ofString "found" then some (D.bool (foundF r0 rs j)) else (c201 w A L mu ns r0 rs).rho z) = some e := hz
      show (if z = Str.ofString "domain" then some (D.str (reachF (hostOf (r0.take j)))) else if z = Str.ofString "here" then some (D.str (hostOf (r0.take j))) else if z = Str.ofString "place" then some (D.str (pathOf ((lowR r0).take j))) else if z = Str.ofString "found" then some (D.bool (foundF r0 rs j)) else
        (if z = Str.ofString "rungs" then none else (c201 w A L mu ns r0 rs).rho z)) = some e
      by_cases h1 : z = Str.ofString "rungs"
      · rw [if_pos h1] at hz'; cases hz'
      · rw [if_neg h1] at hz'
        by_cases h2 : z = Str.ofString "found"
        · have k1 : z ≠ Str.ofString "domain" := by rw [h2]; decide
          have k2 : z ≠ Str.ofString "here" := by rw [h2]; decide
          have k3 : z ≠ Str.ofString "place" := by rw [h2]; decide
          rw [if_pos h2] at hz'
          rw [if_neg k1, if_neg k2, if_neg k3, if_pos h2]; exact hz'
        · rw [if_neg h2] at hz'
          have k1 : z ≠ Str.ofString "domain" := by rintro rfl; cases hz'
          have k2 : z ≠ Str.ofString "here" := by rintro rfl; cases hz'
          have k3 : z ≠ Str.ofString "place" := by rintro rfl; cases hz'
          rw [if_neg k1, if_neg k2, if_neg k3, if_neg h2, if_neg h1]; exact hz'
    have st10 : St (c201b w A L mu ns r0 rs) s₀ s8 := st9.freeze st2.lmu st2.cmu hr rfl
    have ok10 : EnvOk (c201b w A L mu ns r0 rs).env := ok
    refine' st10.assign (c := c201b w A L mu ns r0 rs) gl (d := .str (dShared r0 rs)) ?h1 (.inl rfl) (fun _ _ _ e => by cases e) rfl ?h2
    case h1 =>
      refine' Ev.call (ds := [.list ((pathsOf r0 rs).map D.str)]) ok10 rfl rfl rfl rfl (Evs.one ?h3 rfl) rfl ?h4 rfl
      case h4 =>
        have f := fn170 w (pathsOf r0 rs) hlr.comOk
        rw [hlr.comF] at f
        exact biFn ⟨rfl, rfl, rfl⟩ f (room.le (by omega))
      case h3 =>
        refine' Ev.eq ?h5 (congrArg D.list (path_map hlr))
        refine' Ev.comp (d0 := dRow (hostsOf r0 rs)) (src := (hostsOf r0 rs).map D.str) (cl := []) (rf := fun _ => none) (fun _ => true) pathD rfl ?h6 rfl ?h7 rfl ?h8 (Itr.list room.hd) hhn Free.zero ?h9 ?i1 (fun _ => rfl)
        case h6 => decide
        case h7 => decide
        case h8 => walk_at "ev1"
        case h9 => intro C Dd I d hd; exact Tests.nil
        case i1 =>
          intro C Dd I d hd _
          obtain ⟨x, hx, rfl⟩ := List.mem_map.mp hd
          obtain ⟨q, hq, rfl⟩ := List.mem_map.mp hx
          have hRq := hlr.all q hq
          refine' Ev.eq (d' := .str (pathOf (lowR q).dropLast)) ?i2 ?i3
          case i2 =>
            (repeat' walk_at "ev1")
            any_goals exact biFn ⟨rfl, rfl, rfl⟩ (fnPath w hRq) (room.le (by omega))
            any_goals exact biFn ⟨rfl, rfl, rfl⟩ (fnDir w hRq.low) (room.le (by omega))
          case i3 => exact congrArg D.str (dirAs hRq).symm
    intro s9 st11
    have hTg : ∀ x ∈ (lowR r0).take (dSize r0 rs), good x = true := fun x hx => hR0.low.g x (List.mem_of_mem_take hx)
    have hTs := Sm.lowTake hlr (dSize r0 rs)
    obtain ⟨hc1, hc2, _⟩ := path_cut _ hTg
    have hps := path_sm hTg hTs
    have hpl := path_len hTs
    have hsd : dShared r0 rs = pathOf ((lowR r0).take (dSize r0 rs)) := rfl
    refine' st11.assign gl (d := .str (comT r0 rs)) ?i4 (.inr ⟨rfl, rfl⟩) (fun _ _ _ e => by cases e) rfl ?i5
    case i4 =>
      refine' Ev.eq (d' := .str (Str.ofString "." ++ Txt.join (Str.ofString ".") (Txt.split (slS (pathOf ((lowR r0).take (dSize r0 rs))) (some 1) none) (Str.ofString "/")).reverse)) ?i6 ?i7
      case i7 => rw [hc1]; rfl
      case i6 =>
        rw [hsd] at st11
        have hjl := hps.rev.joinLen (sep := Str.ofString ".") (by decide +kernel)
        have hdl : (Str.ofString ".").length = 1 := by decide +kernel
        generalize hTT : pathOf ((lowR r0).take (dSize r0 rs)) = P at *
        rw [hsd]
        have hPn : (Txt.split (slS P (some 1) none) (Str.ofString "/")).length ≤ 8 := hps.n
        have hSl : ((Txt.split (slS P (some 1) none) (Str.ofString "/")).map D.str).length ≤ 100000 := by rw [List.length_map]; omega
        (repeat' walk_at "ev1")
        any_goals exact SliceR.str (by omega)
        any_goals exact Bi.split (by omega) (by decide +kernel) (split_parts _ (by omega))
        any_goals exact (by decide : (-1 : Int) ≠ 0)
        any_goals exact hSl
        any_goals exact Bi.joinL (xs := (Txt.split (slS P (some 1) none) (Str.ofString "/")).reverse) (by rw [pickD_rev, List.map_reverse]) (hps.rev.joinOk (by decide +kernel))
        any_goals exact BinR.addS (by omega)
    intro s10 st12
    have st12' : St (c201c w A L mu ns r0 rs) s₀ s10 := st12
    have hlc : (Txt.lower (comT r0 rs)).length ≤ 1000 := by
      rw [low_comT hlr]; unfold comT
      rw [← cl_len, rung_cl, List.length_cons, cl_len]; have := host_len hTs; omega
    refine' st12'.assignComp (c := c201c w A L mu ns r0 rs) (d0 := dRow (hostsOf r0 rs)) (src := (hostsOf r0 rs).map D.str) (cl := [(Str.ofString "common", L + 3)]) (rf := rho1 (Str.ofString "common") (.str (comT r0 rs))) (fun _ => true) (udmD (comT r0 rs))
      gl rfl rfl (fun _ _ _ e => by cases e) rfl ?j1 rfl ?j2 rfl ?j3 (Itr.list room.hd) hhn ?j4 ?j5 ?j6 (fun _ => rfl) ?j7
    case j1 => decide
    case j2 => decide
    case j3 => walk_at "ev1"
    case j4 => exact Free.one rfl (fun _ => .inl rfl) (.inl rfl) rfl
    case j5 => intro C Dd I d hd; exact Tests.nil
    case j6 =>
      intro C Dd I d hd _
      obtain ⟨x, hx, rfl⟩ := List.mem_map.mp hd
      obtain ⟨q, hq, rfl⟩ := List.mem_map.mp hx
      have hRq := hlr.all q hq
      have hul := up_len hRq
      refine' Ev.eq (d' := .bool (udm (Txt.upper (hostOf q)) (comT r0 rs))) ?j8 rfl
      (repeat' walk_at "ev1")
      any_goals exact Bi.upper (by omega)
      any_goals exact biFn ⟨rfl, rfl, rfl⟩ (fnUdm w hRq hlc) (room.le (by omega))
    case j7 =>
    intro s11 st13
    rw [udm_map (comT r0 rs) _ (fun r hr => hlr.under hr)] at st13
    have st13' : St (c201d w A L mu ns r0 rs) s₀ s11 := st13
    have hlh : (Txt.lower (hostOf r0)).length ≤ 1000 := by rw [low_host hR0.g]; have := host_len hR0.low.sm; omega
    refine' st13'.assignComp (c := c201d w A L mu ns r0 rs) (d0 := dRow (hostsOf r0 rs)) (src := (hostsOf r0 rs).map D.str) (cl := [(Str.ofString "hosts", L + 1)]) (rf := rho1 (Str.ofString "hosts") (dRow (hostsOf r0 rs))) (fun _ => true) (udmD (hostOf r0))
      gl rfl rfl (fun _ _ _ e => by cases e) rfl ?k1 rfl ?k2 rfl ?k3 (Itr.list room.hd) hhn ?k4 ?k5 ?k6 (fun _ => rfl) ?k7
    case k1 => decide
    case k2 => decide
    case k3 => walk_at "ev1"
    case k4 => exact Free.one rfl (fun _ => .inl rfl) (.inl rfl) rfl
    case k5 => intro C Dd I d hd; exact Tests.nil
    case k6 =>
      intro C Dd I d hd _
      obtain ⟨x, hx, rfl⟩ := List.mem_map.mp hd
      obtain ⟨q, hq, rfl⟩ := List.mem_map.mp hx
      have hRq := hlr.all q hq
      have hul := up_len hRq
      refine' Ev.eq (d' := .bool (udm (Txt.upper (hostOf q)) (hostOf r0))) ?k8 rfl
      (repeat' walk_at "ev1")
      any_goals exact Bi.upper (by omega)
      any_goals exact ItemR.list (by decide) hh0 hhn
      any_goals exact biFn ⟨rfl, rfl, rfl⟩ (fnUdm w hRq hlh) (room.le (by omega))
    case k7 =>
    intro s12 st14
    rw [udm_map (hostOf r0) (fun q => lowR q == lowR r0) (fun r hr => hlr.same hr)] at st14
    refine' st14.ret (d := .bool true) ?l1 (fin_of h mu_r rfl)
    refine' Ev.eq (Ev.cmp (d1 := dAns (dRungs r0 rs) (dFound r0 rs) (dShared r0 rs) (dUnder r0 rs) (dSame r0 rs)) (d2 := dAns (dRungs r0 rs) (dFound r0 rs) (dShared r0 rs) (dUnder r0 rs) (dSame r0 rs)) ?l2 ?l3 (CmpR.eq5 (room.le (by omega))) rfl) ?l4
    case l4 => simp
    case l2 =>
      refine' Ev.tuple ?l5 (by show 5 ≤ 100000; omega)
      repeat' walk_at "ev1"
    case l3 =>
      (repeat' walk_at "ev1")
      any_goals exact biFn ⟨rfl, rfl, rfl⟩ (fn196 w r0 rs hlr.due) (room.le (by omega))
theorem fn201 (w : World) (ns : List Int) (hns : ns.length ≤ 63) : Fn PR w (hd.heap_39 w.params) 61 201 [.list (ns.map D.int)] (.bool true) := by
  refine Fn.intro1 (n := Str.ofString "script") (at201 w.params) (bind201 w.params) ?_ (.inl rfl) (body201 w ns hns)
  intro L; show [Str.ofString "common", Str.ofString "domain", Str.ofString "hosts"].Nodup; decide
end
end Mine
end PdY2Part
section PdFinPart
open PySem PySem.W PyProof.Rows
namespace Mine
theorem gl_of {w : World} {h : Heap} {p : Program} {loose : List Str} {mean : ExcName → Option Value} {mg mb : Str → Option Value} (X : (hd.heap_39 w.params).In h) (T : Top p loose mean mg mb h) : Gl (hd.heap_39 w.params) h :=
  ⟨X, ⟨mg, T.g, fun x r e => by
    cases r with
    | none => exact mg_none_of X T.g e
    | some v => exact mg_of X T.g e⟩, ⟨mb, T.b, T.builtins⟩, T.nolimit⟩
theorem ints_reps {P : PH} : ∀ {vs : List Value} {ns : List Int}, IntsAre vs ns → Reps P vs (ns.map D.int)
  | _, _, .nil => .nil
  | _, _, .cons n t h => .cons (.int n t) (ints_reps h)
theorem room_caller : Room callerA 61 := ⟨rfl, by show 1 + claimMargin + 61 < 1000; decide, by show 4 + 8 * 61 < 9900; decide⟩
theorem post_ok (ns : List Int) : PySem.Challenge.rw_pd0136_01.row.claim.post [ofPy (PyData.list (List.map PyData.int ns))] (WData.bool true) [ofPy (PyData.list (List.map PyData.int ns))] = true := by kernel_rfl
theorem law_ends (w : World) {s₁ : Shared} {kl : Str → Option Addr} {mean : ExcName → Option Value} {l : Addr} {vs : List Value} {ns : List Int} (GL : Gl (hd.heap_39 w.params) s₁.heap) (hL : s₁.heap.IsList l vs.toArray) (hI : IntsAre vs ns)
    (hn : ¬ ((63 : Nat) : Int) < (ns.length : Int)) (hg : s₁.gens = #[]) :
    wpAny (model PR w) callerA (call (.ref 201) [.ref l]) (fun v s' => GoodWG PySem.Challenge.rw_pd0136_01.row.claim kl mean [ofPy (.list (ns.map .int))] s₁ (.ok (.ret v)) s')
      (fun e s' => GoodWG PySem.Challenge.rw_pd0136_01.row.claim kl mean [ofPy (.list (ns.map .int))] s₁ (.error e) s') s₁ := by
  refine (fn201 w ns (by omega)).run callerA s₁ [] [.ref l] _ _ room_caller GL (fun _ h => by cases h) (.cons (Rep.ofList (by simp) hL (ints_reps hI)) .nil) fun v h' tk e p => ?_
  rw [p.boolE]
  exact GoodW.toG ⟨.inl ⟨_, .bool true, [], rfl, fun cls => rfl, .bool true, post_ok ns, fun _ => ⟨.nil, fun _ ha => by cases ha⟩⟩, e, rfl, hg⟩
end Mine
end PdFinPart
open PySem PySem.W PyProof.Rows
set_option maxHeartbeats 4000000 in
theorem PySem.Challenge.cw_pd0136_01_holds : PySem.Challenge.rw_pd0136_01.Holds := by
  refine Mine.hd ?_
  k_fill
  intro w s₀ s₁ mg mb G Y fa o pm cd doc dV kV ho hd' hcd hD hmg hg args vals as hpre hlay hrd hwl hlo
  have KX := kIn_of Y
  clear hd' hcd hD Y ho
  refine Ground.open G ?_
  intro T B D TE TW
  have GL := Mine.gl_of KX T
  have efa : fa = 201 := by
    have h2 : mg (Str.ofString "law") = some (.ref 201) := mg_of KX T.g rfl
    have h3 : mg (Str.ofString "law") = some (.ref fa) := hmg
    rw [h2] at h3; cases h3; rfl
  subst efa
  clear D B TE TW hmg T G KX
  wrow_args hpre hlay hrd hwl hlo
  rename Heap.IsList _ _ _ => hL
  rename IntsAre _ _ => hI
  exact Mine.law_ends w GL hL hI (by assumption) hg
