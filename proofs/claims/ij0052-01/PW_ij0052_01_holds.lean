import PyProof.Rows.All
import Wide.All
import OpenK.AllK
import Wide.FinOn
import PySem.Challenge.RW_ij0052_01
set_option Elab.async false
set_option maxRecDepth 100000

section
open PySem PySem.W PyProof.Rows PySem.Calls
set_option maxRecDepth 100000
namespace Mine

/-- data that a value stands for -/
inductive D where
  | undef
  | val (v : Value)
  | int (i : Int)
  | bytes (b : List UInt8)
  | list (ds : List D)
  | tuple (ds : List D)
  | own (a : Addr) (ds : List D)

abbrev D.bool (b : Bool) : D := .val (.bool b)
abbrev D.none : D := .val .none

mutual
def Rep (N : Addr → Prop) (h : Heap) : D → Value → Prop
  | .undef, _ => False
  | .val w, v => v = w
  | .int i, v => ∃ t, v = .int i t
  | .bytes b, v => ∃ t, v = .bytes b.toArray t
  | .list ds, v => ∃ a vs, v = .ref a ∧ ¬ N a ∧ h.IsList a vs.toArray ∧ Reps N h ds vs
  | .tuple ds, v => ∃ a vs, v = .ref a ∧ ¬ N a ∧ h.IsTuple a vs.toArray ∧ Reps N h ds vs
  | .own _ _, _ => False
def Reps (N : Addr → Prop) (h : Heap) : List D → List Value → Prop
  | [], vs => vs = []
  | d :: ds, vs => ∃ v r, vs = v :: r ∧ Rep N h d v ∧ Reps N h ds r
end

/-- the sequence objects outside N stay -/
def SeqKeep (N : Addr → Prop) (h h' : Heap) : Prop := ∀ b o xs n, ¬ N b → h.get? b = some o → o.data = .seq xs n → h'.get? b = some o

theorem SeqKeep.of_keeps {N : Addr → Prop} {h h' : Heap} (k : ∀ b o, h.get? b = some o → h'.get? b = some o) : SeqKeep N h h' := fun b o _ _ _ e _ => k b o e

mutual
theorem Rep.stay {N : Addr → Prop} {h h' : Heap} (k : SeqKeep N h h') : ∀ (d : D) (v : Value), Rep N h d v → Rep N h' d v
  | .undef, _, x => by simp [Rep] at x
  | .val _, _, x => by simpa [Rep] using x
  | .int _, _, x => by simpa [Rep] using x
  | .bytes _, _, x => by simpa [Rep] using x
  | .list ds, v, x => by
    simp only [Rep] at x ⊢
    obtain ⟨a, vs, e, na, ⟨o, ho, hc, n, hd⟩, r⟩ := x
    exact ⟨a, vs, e, na, ⟨o, k _ _ _ _ na ho hd, hc, n, hd⟩, Reps.stay k ds vs r⟩
  | .tuple ds, v, x => by
    simp only [Rep] at x ⊢
    obtain ⟨a, vs, e, na, ⟨o, ho, hc, n, hd⟩, r⟩ := x
    exact ⟨a, vs, e, na, ⟨o, k _ _ _ _ na ho hd, hc, n, hd⟩, Reps.stay k ds vs r⟩
  | .own b ds, v, x => by simp [Rep] at x
theorem Reps.stay {N : Addr → Prop} {h h' : Heap} (k : SeqKeep N h h') : ∀ (ds : List D) (vs : List Value), Reps N h ds vs → Reps N h' ds vs
  | [], _, x => by simpa [Reps] using x
  | d :: ds, vs, x => by
    simp only [Reps] at x ⊢
    obtain ⟨v, r, e, x1, x2⟩ := x
    exact ⟨v, r, e, Rep.stay k d v x1, Reps.stay k ds r x2⟩
end
mutual
theorem Rep.less {N N' : Addr → Prop} {h : Heap} (k : ∀ b, N' b → N b) : ∀ (d : D) (v : Value), Rep N h d v → Rep N' h d v
  | .undef, _, x => by simp [Rep] at x
  | .val _, _, x => by simpa [Rep] using x
  | .int _, _, x => by simpa [Rep] using x
  | .bytes _, _, x => by simpa [Rep] using x
  | .list ds, v, x => by
    simp only [Rep] at x ⊢
    obtain ⟨a, vs, e, na, l, r⟩ := x
    exact ⟨a, vs, e, fun h => na (k a h), l, Reps.less k ds vs r⟩
  | .tuple ds, v, x => by
    simp only [Rep] at x ⊢
    obtain ⟨a, vs, e, na, l, r⟩ := x
    exact ⟨a, vs, e, fun h => na (k a h), l, Reps.less k ds vs r⟩
  | .own b ds, v, x => by simp [Rep] at x
theorem Reps.less {N N' : Addr → Prop} {h : Heap} (k : ∀ b, N' b → N b) : ∀ (ds : List D) (vs : List Value), Reps N h ds vs → Reps N' h ds vs
  | [], _, x => by simpa [Reps] using x
  | d :: ds, vs, x => by
    simp only [Reps] at x ⊢
    obtain ⟨v, r, e, x1, x2⟩ := x
    exact ⟨v, r, e, Rep.less k d v x1, Reps.less k ds r x2⟩
end

mutual
theorem Rep.more {N N' : Addr → Prop} {h : Heap} (k : ∀ b o, h.get? b = some o → N' b → N b) : ∀ (d : D) (v : Value), Rep N h d v → Rep N' h d v
  | .undef, _, x => by simp [Rep] at x
  | .val _, _, x => by simpa [Rep] using x
  | .int _, _, x => by simpa [Rep] using x
  | .bytes _, _, x => by simpa [Rep] using x
  | .list ds, v, x => by
    simp only [Rep] at x ⊢
    obtain ⟨a, vs, e, na, l, r⟩ := x
    exact ⟨a, vs, e, fun h => na (let ⟨o, e, _⟩ := l; k a o e h), l, Reps.more k ds vs r⟩
  | .tuple ds, v, x => by
    simp only [Rep] at x ⊢
    obtain ⟨a, vs, e, na, l, r⟩ := x
    exact ⟨a, vs, e, fun h => na (let ⟨o, e, _⟩ := l; k a o e h), l, Reps.more k ds vs r⟩
  | .own b ds, v, x => by simp [Rep] at x
theorem Reps.more {N N' : Addr → Prop} {h : Heap} (k : ∀ b o, h.get? b = some o → N' b → N b) : ∀ (ds : List D) (vs : List Value), Reps N h ds vs → Reps N' h ds vs
  | [], _, x => by simpa [Reps] using x
  | d :: ds, vs, x => by
    simp only [Reps] at x ⊢
    obtain ⟨v, r, e, x1, x2⟩ := x
    exact ⟨v, r, e, Rep.more k d v x1, Reps.more k ds r x2⟩
end
theorem Rep.keeps {N : Addr → Prop} {h h' : Heap} {d : D} {v : Value} (x : Rep N h d v) (k : ∀ b o, h.get? b = some o → h'.get? b = some o) : Rep N h' d v := Rep.stay (.of_keeps k) _ _ x
theorem Reps.keeps {N : Addr → Prop} {h h' : Heap} {d : List D} {v : List Value} (x : Reps N h d v) (k : ∀ b o, h.get? b = some o → h'.get? b = some o) : Reps N h' d v := Reps.stay (.of_keeps k) _ _ x

theorem Reps.nil {N : Addr → Prop} {h : Heap} : Reps N h [] [] := by simp [Reps]
theorem Reps.cons {N : Addr → Prop} {h : Heap} {d : D} {v : Value} {ds : List D} {vs : List Value} (a : Rep N h d v) (b : Reps N h ds vs) : Reps N h (d :: ds) (v :: vs) := by
  simp only [Reps]; exact ⟨v, vs, rfl, a, b⟩
theorem Reps.length {N : Addr → Prop} {h : Heap} : ∀ {ds : List D} {vs : List Value}, Reps N h ds vs → vs.length = ds.length
  | [], vs, x => by simp only [Reps] at x; subst x; rfl
  | d :: ds, vs, x => by
    simp only [Reps] at x
    obtain ⟨v, r, rfl, _, x⟩ := x
    simp [Reps.length x]
theorem Reps.append {N : Addr → Prop} {h : Heap} : ∀ {ds es : List D} {vs ws : List Value}, Reps N h ds vs → Reps N h es ws → Reps N h (ds ++ es) (vs ++ ws)
  | [], es, vs, ws, x, y => by simp only [Reps] at x; subst x; simpa using y
  | d :: ds, es, vs, ws, x, y => by
    simp only [Reps] at x
    obtain ⟨v, r, rfl, x1, x2⟩ := x
    exact Reps.cons x1 (Reps.append x2 y)
theorem Reps.get {N : Addr → Prop} {h : Heap} : ∀ {ds : List D} {vs : List Value} {i : Nat} {d : D}, Reps N h ds vs → ds[i]? = some d → ∃ v, vs[i]? = some v ∧ Rep N h d v
  | [], _, _, _, _, e => by simp at e
  | d :: ds, vs, i, d', x, e => by
    simp only [Reps] at x
    obtain ⟨v, r, rfl, x1, x2⟩ := x
    cases i with
    | zero => simp at e; subst e; exact ⟨v, rfl, x1⟩
    | succ i => simpa using Reps.get x2 (by simpa using e)
theorem Reps.at {N : Addr → Prop} {h : Heap} : ∀ {ds : List D} {vs : List Value} {i : Nat} {v : Value}, Reps N h ds vs → vs[i]? = some v → ∃ d, ds[i]? = some d ∧ Rep N h d v
  | [], vs, i, v, x, e => by simp only [Reps] at x; subst x; simp at e
  | d :: ds, vs, i, v', x, e => by
    simp only [Reps] at x
    obtain ⟨v, r, rfl, x1, x2⟩ := x
    cases i with
    | zero => simp at e; subst e; exact ⟨d, rfl, x1⟩
    | succ i => simpa using Reps.at x2 (by simpa using e)
theorem Reps.drop {N : Addr → Prop} {h : Heap} : ∀ {ds : List D} {vs : List Value} (n : Nat), Reps N h ds vs → Reps N h (ds.drop n) (vs.drop n)
  | [], vs, n, x => by simp only [Reps] at x; subst x; simpa using Reps.nil
  | d :: ds, vs, n, x => by
    cases n with
    | zero => simpa using x
    | succ n =>
      simp only [Reps] at x
      obtain ⟨v, r, rfl, x1, x2⟩ := x
      simpa using Reps.drop n x2
theorem Reps.take {N : Addr → Prop} {h : Heap} : ∀ {ds : List D} {vs : List Value} (n : Nat), Reps N h ds vs → Reps N h (ds.take n) (vs.take n)
  | [], vs, n, x => by simp only [Reps] at x; subst x; simpa using Reps.nil
  | d :: ds, vs, n, x => by
    cases n with
    | zero => simpa using Reps.nil
    | succ n =>
      simp only [Reps] at x
      obtain ⟨v, r, rfl, x1, x2⟩ := x
      simpa using Reps.cons x1 (Reps.take n x2)
theorem Rep.list_mk {N : Addr → Prop} {h : Heap} {a : Addr} {vs : List Value} {ds : List D} (na : ¬ N a) (l : h.IsList a vs.toArray) (r : Reps N h ds vs) : Rep N h (.list ds) (.ref a) := by
  simp only [Rep]; exact ⟨a, vs, rfl, na, l, r⟩
theorem Rep.tuple_mk {N : Addr → Prop} {h : Heap} {a : Addr} {vs : List Value} {ds : List D} (na : ¬ N a) (l : h.IsTuple a vs.toArray) (r : Reps N h ds vs) : Rep N h (.tuple ds) (.ref a) := by
  simp only [Rep]; exact ⟨a, vs, rfl, na, l, r⟩
theorem Rep.list_inv {N : Addr → Prop} {h : Heap} {v : Value} {ds : List D} (x : Rep N h (.list ds) v) : ∃ a vs, v = .ref a ∧ ¬ N a ∧ h.IsList a vs.toArray ∧ Reps N h ds vs := by simpa only [Rep] using x
theorem Rep.tuple_inv {N : Addr → Prop} {h : Heap} {v : Value} {ds : List D} (x : Rep N h (.tuple ds) v) : ∃ a vs, v = .ref a ∧ ¬ N a ∧ h.IsTuple a vs.toArray ∧ Reps N h ds vs := by simpa only [Rep] using x
theorem Rep.int_inv {N : Addr → Prop} {h : Heap} {v : Value} {i : Int} (x : Rep N h (.int i) v) : ∃ t, v = .int i t := by simpa only [Rep] using x
theorem Rep.bytes_inv {N : Addr → Prop} {h : Heap} {v : Value} {i : List UInt8} (x : Rep N h (.bytes i) v) : ∃ t, v = .bytes i.toArray t := by simpa only [Rep] using x
theorem Rep.val_inv {N : Addr → Prop} {h : Heap} {v w : Value} (x : Rep N h (.val w) v) : v = w := by simpa only [Rep] using x
theorem Rep.val_mk {N : Addr → Prop} {h : Heap} {w : Value} : Rep N h (.val w) w := by simp only [Rep]
theorem Rep.int_mk {N : Addr → Prop} {h : Heap} {i : Int} {t : Tok} : Rep N h (.int i) (.int i t) := by simp [Rep]
theorem Rep.bytes_mk {N : Addr → Prop} {h : Heap} {i : List UInt8} {t : Tok} : Rep N h (.bytes i) (.bytes i.toArray t) := by simp [Rep]

def D.flat : D → Bool
  | .undef | .val _ | .int _ | .bytes _ => true
  | _ => false

/-! ## the globals -/
structure FnRec where
  name : Str
  params : Arguments
  body : List Stmt
  scope : Scope

def toRec : Stmt → FnRec
  | .FunctionDef name args body _ _ _ scope _ _ _ => ⟨name, args, body, scope⟩
  | _ => ⟨Str.empty, ⟨[], [], none, [], [], none, []⟩, [], default⟩

abbrev PG : Program := PySem.Challenge.pw_ij0052_01

def FnIs (mg : Str → Option Value) (h : Heap) (f : FnRec) (a : Addr) : Prop :=
  ∃ o pm code doc, mg f.name = some (.ref a) ∧ h.get? a = some o ∧ o.data = .func (docDef f.name f.params f.body f.scope pm code doc) ∧ h.CodeRec code f.name

structure Glb (fs : List FnRec) (free : List Str) (mg mb : Str → Option Value) (h : Heap) : Prop where
  g : h.Ns mainGlobals mg
  b : h.Ns builtinsNs mb
  nolimit : h.NoLimit
  fn : ∀ f ∈ fs, ∃ a, FnIs mg h f a
  free : ∀ x ∈ free, mg x = none ∧ mb x = bootBuiltins x

def Al (N : Addr → Prop) (h : Heap) : Prop := ∀ b, N b → ∃ o, h.get? b = some o
theorem Al.keeps {N : Addr → Prop} {h h' : Heap} (x : Al N h) (k : ∀ b o, h.get? b = some o → h'.get? b = some o) : Al N h' := fun b hb => let ⟨o, e⟩ := x b hb; ⟨o, k b o e⟩
theorem Al.fresh {N : Addr → Prop} {h : Heap} (x : Al N h) : ¬ N h.objs.size := fun hb => by
  obtain ⟨o, e⟩ := x _ hb
  exact Nat.lt_irrefl _ (Heap.lt_size e)
theorem Al.above {N : Addr → Prop} {h : Heap} {a : Nat} (x : Al N h) (ha : h.objs.size ≤ a) : ¬ N a := fun hb => by
  obtain ⟨o, e⟩ := x _ hb
  exact absurd (Nat.lt_of_lt_of_le (Heap.lt_size e) ha) (Nat.lt_irrefl _)

theorem Glb.keeps {fs free mg mb} {h h' : Heap} (G : Glb fs free mg mb h) (k : ∀ b o, h.get? b = some o → h'.get? b = some o) : Glb fs free mg mb h' where
  g := G.g.keeps k
  b := G.b.keeps k
  nolimit := G.nolimit.keeps k
  fn := fun f hf => let ⟨a, o, pm, c, d, h1, h2, h3, h4⟩ := G.fn f hf; ⟨a, o, pm, c, d, h1, k _ _ h2, h3, h4.keeps k⟩
  free := G.free

end Mine
end

section
open PySem PySem.W PyProof.Rows PySem.Calls
set_option maxRecDepth 100000
namespace Mine

def fnAt (i : Nat) : FnRec := toRec (PG.main.body.getD i (.Pass ⟨0, 0, 0, 0⟩))
def allFns : List FnRec := [fnAt 10, fnAt 12, fnAt 13, fnAt 15, fnAt 16, fnAt 17, fnAt 18, fnAt 20, fnAt 21, fnAt 22, fnAt 24, fnAt 26, fnAt 27, fnAt 28, fnAt 29, fnAt 30, fnAt 31, fnAt 32, fnAt 33, fnAt 34, fnAt 35, fnAt 36, fnAt 37, fnAt 38]
def freeNames : List Str := [Str.ofString "type", Str.ofString "issubclass", Str.ofString "isinstance", Str.ofString "str", Str.ofString "bytes", Str.ofString "len", Str.ofString "range", Str.ofString "min", Str.ofString "max", Str.ofString "sum", Str.ofString "abs", Str.ofString "int", Str.ofString "tuple", Str.ofString "map", Str.ofString "enumerate", Str.ofString "divmod", Str.ofString "ValueError", Str.ofString "TypeError", Str.ofString "AttributeError", Str.ofString "BytesWarning"]

/-- the globals, at a heap -/
def GH (h : Heap) : Prop := ∃ mg mb, Glb allFns freeNames mg mb h
theorem GH.keeps {h h' : Heap} (G : GH h) (k : ∀ b o, h.get? b = some o → h'.get? b = some o) : GH h' := let ⟨mg, mb, g⟩ := G; ⟨mg, mb, g.keeps k⟩

def Room (k : Nat) (A : Around) : Prop := A.depth + k ≤ 500 ∧ A.units + 40 * k ≤ 4000 ∧ A.handled = none
theorem Room.le {k j : Nat} {A : Around} (r : Room k A) (h : j ≤ k) : Room j A := ⟨by have := r.1; omega, by have := r.2.1; omega, r.2.2⟩
theorem Room.depth {k : Nat} {A : Around} (r : Room k A) : A.depth < recursionLimit := by have := r.1; show A.depth < 1000; omega
theorem Room.units {k : Nat} {A : Around} (r : Room k A) : A.units < cLine := by have := r.2.1; show A.units < 9900; omega
theorem Room.deeper {k : Nat} {A : Around} {e : Env} (r : Room (k + 1) A) : Room k (A.deeper e) := by
  refine ⟨?_, ?_, r.2.2⟩
  · have := r.1; show A.depth + 1 + k ≤ 500; omega
  · have := r.2.1; show A.units + 3 + 40 * k ≤ 4000; omega

theorem kRefl (s : Shared) : Keeps s s := ⟨s.heap, s.toks, rfl, fun _ _ e => e⟩
theorem kTrans {s s' s'' : Shared} (a : Keeps s s') (b : Keeps s' s'') : Keeps s s'' := by
  obtain ⟨h1, t1, rfl, k1⟩ := a
  obtain ⟨h2, t2, rfl, k2⟩ := b
  exact ⟨h2, t2, rfl, fun b o e => k2 b o (k1 b o e)⟩
theorem kHeap {s s' : Shared} (a : Keeps s s') : ∀ b o, s.heap.get? b = some o → s'.heap.get? b = some o := by
  obtain ⟨h1, t1, rfl, k1⟩ := a; exact k1
theorem kToks {s : Shared} (n : Nat) : Keeps s { s with toks := n } := ⟨s.heap, n, rfl, fun _ _ e => e⟩
theorem kMk {s : Shared} {h' : Heap} {n : Nat} (k : ∀ b o, s.heap.get? b = some o → h'.get? b = some o) : Keeps s { s with heap := h', toks := n } := ⟨h', n, rfl, k⟩
theorem kPush {s : Shared} (o : Obj) : Keeps s { s with heap := s.heap.push o } := ⟨_, _, rfl, fun _ _ e => Heap.get?_push_of_some _ e⟩

def Moves (W : Addr → Prop) (s s' : Shared) : Prop := ∃ h' tk, s' = { s with heap := h', toks := tk } ∧ ∀ b o, ¬ W b → s.heap.get? b = some o → h'.get? b = some o
theorem Moves.refl (W) (s : Shared) : Moves W s s := ⟨s.heap, s.toks, rfl, fun _ _ _ e => e⟩
theorem Moves.trans {W} {s s' s'' : Shared} (a : Moves W s s') (b : Moves W s' s'') : Moves W s s'' := by
  obtain ⟨h1, t1, rfl, k1⟩ := a
  obtain ⟨h2, t2, rfl, k2⟩ := b
  exact ⟨h2, t2, rfl, fun b o w e => k2 b o w (k1 b o w e)⟩
theorem Moves.heap {W} {s s' : Shared} (a : Moves W s s') : ∀ b o, ¬ W b → s.heap.get? b = some o → s'.heap.get? b = some o := by
  obtain ⟨h1, t1, rfl, k1⟩ := a; exact k1
theorem kMoves {W} {s s' : Shared} (a : Keeps s s') : Moves W s s' := by
  obtain ⟨h1, t1, rfl, k1⟩ := a; exact ⟨h1, t1, rfl, fun b o _ e => k1 b o e⟩

abbrev Ctx := List (Str × D)

def Wr (env : Env) (b : Addr) : Prop := b = env.locals ∨ ∃ x, env.cells.lookup x = some b
def WO (O : Addr → Prop) (env : Env) (b : Addr) : Prop := Wr env b ∨ O b

/-- the value at hand of a name -/
def Bnd (env : Env) (h : Heap) (x : Str) (v : Value) : Prop :=
  (env.kindOf x = some .local ∧ ∃ m, h.Ns env.locals m ∧ m x = some v) ∨
  ((env.kindOf x = some .cell ∨ env.kindOf x = some .free) ∧ ∃ c, env.cells.lookup x = some c ∧ h.IsCell c (some v))
def Slot (env : Env) (x : Str) : Prop := env.kindOf x = some .local ∨ ((env.kindOf x = some .cell ∨ env.kindOf x = some .free) ∧ ∃ c, env.cells.lookup x = some c)

/-- a list of the frame's own, that it may change -/
def OwnL (h : Heap) (a : Addr) (items : Array Value) : Prop := ∃ o, h.get? a = some o ∧ o.cls = .type "list" ∧ ∃ n, o.data = .seq items n ∧ o.dict = none ∧ o.slots = #[]
theorem OwnL.isList {h a items} (x : OwnL h a items) : h.IsList a items := let ⟨o, e, c, n, d, _⟩ := x; ⟨o, e, c, n, d⟩
theorem OwnL.exact {h a items} (x : OwnL h a items) : ∃ n, h.get? a = some { cls := .type "list", dict := none, data := .seq items n, slots := #[] } := by
  obtain ⟨⟨cls, dd, data, sl⟩, e, c, n, d, q, r⟩ := x
  simp only at c d q r
  subst c d q r
  exact ⟨n, e⟩

inductive Has (N : Addr → Prop) (env : Env) (h : Heap) (x : Str) : D → Prop
  | undef : Has N env h x .undef
  | own {a : Addr} {ds : List D} {vs : List Value} : Bnd env h x (.ref a) → OwnL h a vs.toArray → Reps N h ds vs → Has N env h x (.own a ds)
  | rep {d : D} {v : Value} : Bnd env h x v → Rep N h d v → Has N env h x d
def Ent (N : Addr → Prop) (env : Env) (h : Heap) (x : Str) (d : D) : Prop := Slot env x ∧ Has N env h x d

structure St (h₀ : Heap) (N O : Addr → Prop) (env : Env) (h : Heap) (ρ : Ctx) : Prop where
  kind : env.scope.kind = .function
  globs : env.globals = mainGlobals
  blts : env.builtins = builtinsNs
  gh0 : GH h₀
  base : ∀ b o, h₀.get? b = some o → h.get? b = some o ∧ ¬ WO O env b
  al : Al N h
  sub : ∀ b, O b → N b
  ns : ∃ m, h.Ns env.locals m
  cells : ∀ x c, env.cells.lookup x = some c → ∃ ov, h.IsCell c ov
  apart : ∀ x y c, env.cells.lookup x = some c → env.cells.lookup y = some c → x = y
  nodup : (ρ.map (·.1)).Nodup
  dbg : ∀ e ∈ ρ, (e.1 == ("__debug__" : Str)) = false ∧ (e.1 == ("__classdict__" : Str)) = false
  ents : ∀ e ∈ ρ, Ent N env h e.1 e.2

theorem St.gh {h₀ N O env h ρ} (S : St h₀ N O env h ρ) : GH h := S.gh0.keeps fun b o e => (S.base b o e).1

theorem Bnd.keeps {env h h' x v} (B : Bnd env h x v) (k : ∀ b o, h.get? b = some o → h'.get? b = some o) : Bnd env h' x v := by
  rcases B with ⟨a, m, n, e⟩ | ⟨a, c, l, i⟩
  · exact .inl ⟨a, m, n.keeps k, e⟩
  · exact .inr ⟨a, c, l, i.keeps k⟩

theorem Has.keeps {N env h h' x d} (H : Has N env h x d) (k : ∀ b o, h.get? b = some o → h'.get? b = some o) : Has N env h' x d := by
  cases H with
  | undef => exact .undef
  | own B l r => exact .own (B.keeps k) (let ⟨o, e, q⟩ := l; ⟨o, k _ _ e, q⟩) (r.keeps k)
  | rep B r => exact .rep (B.keeps k) (r.keeps k)

theorem St.keeps {h₀ N O env h h' ρ} (S : St h₀ N O env h ρ) (k : ∀ b o, h.get? b = some o → h'.get? b = some o) : St h₀ N O env h' ρ where
  kind := S.kind
  globs := S.globs
  blts := S.blts
  gh0 := S.gh0
  base := fun b o e => ⟨k _ _ (S.base b o e).1, (S.base b o e).2⟩
  al := S.al.keeps k
  sub := S.sub
  ns := let ⟨m, n⟩ := S.ns; ⟨m, n.keeps k⟩
  cells := fun x c e => let ⟨ov, i⟩ := S.cells x c e; ⟨ov, i.keeps k⟩
  apart := S.apart
  nodup := S.nodup
  dbg := S.dbg
  ents := fun e he => let ⟨a, b⟩ := S.ents e he; ⟨a, b.keeps k⟩

/-- what a frame writes is no sequence -/
theorem St.wr_noseq {h₀ N O env h ρ} (S : St h₀ N O env h ρ) {b : Addr} (wb : Wr env b) {o xs n} (e : h.get? b = some o) (hd : o.data = .seq xs n) : False := by
  rcases wb with rfl | ⟨x, hx⟩
  · obtain ⟨m, o', es, ep, e', d', _⟩ := S.ns
    rw [e] at e'; cases e'; rw [hd] at d'; cases d'
  · obtain ⟨ov, o', e', d'⟩ := S.cells x b hx
    rw [e] at e'; cases e'; rw [hd] at d'; cases d'

inductive At : Ctx → Str → D → Prop
  | here {x d r} : At ((x, d) :: r) x d
  | there {x d y e r} : At r x d → At ((y, e) :: r) x d
inductive Upd : Ctx → Str → D → Ctx → Prop
  | here {x e d r} : Upd ((x, e) :: r) x d ((x, d) :: r)
  | there {x d y e r r'} : Upd r x d r' → Upd ((y, e) :: r) x d ((y, e) :: r')

theorem At.mem {ρ x d} (a : At ρ x d) : (x, d) ∈ ρ := by
  induction a with
  | here => exact List.mem_cons_self
  | there _ ih => exact List.mem_cons_of_mem _ ih
theorem Upd.keys {ρ x d ρ'} (u : Upd ρ x d ρ') : ρ'.map (·.1) = ρ.map (·.1) := by
  induction u with
  | here => rfl
  | there _ ih => simp [ih]
theorem Upd.key_mem {ρ x d ρ'} (u : Upd ρ x d ρ') : x ∈ ρ.map (·.1) := by
  induction u with
  | here => simp
  | there _ ih => exact List.mem_cons_of_mem _ ih
theorem Upd.ent {ρ x d ρ'} (u : Upd ρ x d ρ') : ∃ e, (x, e) ∈ ρ := by
  obtain ⟨⟨y, e⟩, h, rfl⟩ := List.mem_map.mp u.key_mem
  exact ⟨e, h⟩
theorem Upd.mem {ρ x d ρ'} (u : Upd ρ x d ρ') (nd : (ρ.map (·.1)).Nodup) : ∀ e ∈ ρ', e = (x, d) ∨ (e ∈ ρ ∧ e.1 ≠ x) := by
  induction u with
  | @here x e d r =>
    intro p hp
    rcases List.mem_cons.mp hp with rfl | hp
    · exact .inl rfl
    · refine .inr ⟨List.mem_cons_of_mem _ hp, fun q => ?_⟩
      simp only [List.map_cons, List.nodup_cons] at nd
      exact nd.1 (q ▸ List.mem_map_of_mem hp)
  | @there x d y e r r' u ih =>
    intro p hp
    simp only [List.map_cons, List.nodup_cons] at nd
    rcases List.mem_cons.mp hp with rfl | hp
    · refine .inr ⟨List.mem_cons_self, fun q => ?_⟩
      have := u.key_mem
      exact nd.1 (by rw [show y = x from q]; exact this)
    · rcases ih nd.2 p hp with h | ⟨h, q⟩
      · exact .inl h
      · exact .inr ⟨List.mem_cons_of_mem _ h, q⟩

/-- a tree on values of the data ds gives the datum d, and keeps the heap -/
def Op (w : World) (k : Nat) (t : List Value → Sem Value) (ds : List D) (d : D) : Prop :=
  ∀ (N : Addr → Prop) (A : Around) (s : Shared) (E : Value → Shared → Prop) (vs : List Value), Room k A → GH s.heap → Al N s.heap → Reps N s.heap ds vs →
    wpAny (model PG w) A (t vs) (fun v s' => Rep N s'.heap d v ∧ Keeps s s') E s
def OpB (w : World) (k : Nat) (t : List Value → Sem Bool) (ds : List D) (b : Bool) : Prop :=
  ∀ (N : Addr → Prop) (A : Around) (s : Shared) (E : Value → Shared → Prop) (vs : List Value), Room k A → GH s.heap → Al N s.heap → Reps N s.heap ds vs →
    wpAny (model PG w) A (t vs) (fun v s' => v = b ∧ Keeps s s') E s

def Ev (w : World) (k : Nat) (env : Env) (ρ : Ctx) (e : Expr) (d : D) : Prop :=
  ∀ (h₀ : Heap) (N O : Addr → Prop) (A : Around) (s : Shared) (E : Value → Shared → Prop), Room k A → St h₀ N O env s.heap ρ →
    wpAny (model PG w) A (eval e env) (fun v s' => Rep N s'.heap d v ∧ Keeps s s') E s
def Tst (w : World) (k : Nat) (env : Env) (ρ : Ctx) (e : Expr) (b : Bool) : Prop :=
  ∀ (h₀ : Heap) (N O : Addr → Prop) (A : Around) (s : Shared) (E : Value → Shared → Prop), Room k A → St h₀ N O env s.heap ρ →
    wpAny (model PG w) A (isTrue e env (eval e env)) (fun v s' => v = b ∧ Keeps s s') E s
def Evs (w : World) (k : Nat) (env : Env) (ρ : Ctx) (es : List Expr) (ds : List D) : Prop :=
  ∀ (h₀ : Heap) (N O : Addr → Prop) (A : Around) (s : Shared) (E : Value → Shared → Prop) (pos : Pos), Room k A → St h₀ N O env s.heap ρ →
    wpAny (model PG w) A (spliced (backTo pos (starEach es env))) (fun vs s' => Reps N s'.heap ds vs ∧ Keeps s s') E s

inductive Out where
  | next (ρ : Ctx)
  | brk (ρ : Ctx)
  | cont (ρ : Ctx)
  | ret (d : D)

def Out.Is (h₀ : Heap) (N O : Addr → Prop) (env : Env) : Out → Flow → Shared → Prop
  | .next ρ, f, s => f = .next ∧ St h₀ N O env s.heap ρ
  | .brk ρ, f, s => f = .brk ∧ St h₀ N O env s.heap ρ
  | .cont ρ, f, s => f = .cont ∧ St h₀ N O env s.heap ρ
  | .ret d, f, s => ∃ v, f = .ret v ∧ Rep N s.heap d v

def Ex (w : World) (O : Addr → Prop) (k : Nat) (env : Env) (ρ : Ctx) (st : Stmt) (o : Out) : Prop :=
  ∀ (h₀ : Heap) (N : Addr → Prop) (A : Around) (s : Shared) (E : Value → Shared → Prop), Room k A → St h₀ N O env s.heap ρ →
    wpAny (model PG w) A (exec st env) (fun f s' => o.Is h₀ N O env f s' ∧ Moves (WO O env) s s') E s
def Exs (w : World) (O : Addr → Prop) (k : Nat) (env : Env) (ρ : Ctx) (ss : List Stmt) (o : Out) : Prop :=
  ∀ (h₀ : Heap) (N : Addr → Prop) (A : Around) (s : Shared) (E : Value → Shared → Prop), Room k A → St h₀ N O env s.heap ρ →
    wpAny (model PG w) A (execs ss env) (fun f s' => o.Is h₀ N O env f s' ∧ Moves (WO O env) s s') E s

section
variable {w : World} {O : Addr → Prop} {k : Nat} {env : Env} {ρ : Ctx}

theorem Exs.nil : Exs w O k env ρ [] (.next ρ) := fun _ _ _ s _ _ S => wpAny_execs_nil ⟨⟨rfl, S⟩, .refl _ s⟩

theorem Exs.cons {st rest ρ' o} (a : Ex w O k env ρ st (.next ρ')) (b : Exs w O k env ρ' rest o) : Exs w O k env ρ (st :: rest) o := fun h₀ N A s E R S => by
  refine wpAny_execs_cons (wpAny_mono (a h₀ N A s E R S) (fun f s' h => ?_) fun _ _ x => x)
  obtain ⟨⟨rfl, S'⟩, M⟩ := h
  exact wpAny_mono (b h₀ N A s' E R S') (fun f s'' h => ⟨h.1, M.trans h.2⟩) fun _ _ x => x

/-- a statement that ends the block -/
theorem Exs.stop {st rest o} (a : Ex w O k env ρ st o) (ho : ∀ ρ', o ≠ .next ρ') : Exs w O k env ρ (st :: rest) o := fun h₀ N A s E R S => by
  refine wpAny_execs_cons (wpAny_mono (a h₀ N A s E R S) (fun f s' h => ?_) fun _ _ x => x)
  cases o with
  | next ρ' => exact absurd rfl (ho ρ')
  | brk ρ' => obtain ⟨⟨rfl, S'⟩, M⟩ := h; exact ⟨⟨rfl, S'⟩, M⟩
  | cont ρ' => obtain ⟨⟨rfl, S'⟩, M⟩ := h; exact ⟨⟨rfl, S'⟩, M⟩
  | ret d => obtain ⟨⟨v, rfl, r⟩, M⟩ := h; exact ⟨⟨v, rfl, r⟩, M⟩
theorem Exs.ret {st rest d} (a : Ex w O k env ρ st (.ret d)) : Exs w O k env ρ (st :: rest) (.ret d) := Exs.stop a fun _ e => nomatch e
theorem Exs.brk {st rest ρ'} (a : Ex w O k env ρ st (.brk ρ')) : Exs w O k env ρ (st :: rest) (.brk ρ') := Exs.stop a fun _ e => nomatch e
theorem Exs.cont {st rest ρ'} (a : Ex w O k env ρ st (.cont ρ')) : Exs w O k env ρ (st :: rest) (.cont ρ') := Exs.stop a fun _ e => nomatch e

theorem Ex.ret_some {e pos d} (a : Ev w k env ρ e d) : Ex w O k env ρ (.Return (some e) pos) (.ret d) := fun h₀ N A s E R S =>
  wpAny_Return_some (wpAny_mono (a h₀ N O A s E R S) (fun v s' h => ⟨⟨v, rfl, h.1⟩, kMoves h.2⟩) fun _ _ x => x)
theorem Ex.break {pos} : Ex w O k env ρ (.Break pos) (.brk ρ) := fun h₀ N A s E R S => by
  show wpAny _ A (do standAt pos; pure Flow.brk) _ E s
  exact wpAny_bind (wpAny_standAt (wpAny_pure ⟨⟨rfl, S⟩, .refl _ _⟩))
theorem Ex.continue {pos} : Ex w O k env ρ (.Continue pos) (.cont ρ) := fun h₀ N A s E R S => by
  show wpAny _ A (do standAt pos; pure Flow.cont) _ E s
  exact wpAny_bind (wpAny_standAt (wpAny_pure ⟨⟨rfl, S⟩, .refl _ _⟩))

theorem Ex.ite {test body orelse pos b o} (t : Tst w k env ρ test b) (x : b = true → Exs w O k env ρ body o) (y : b = false → Exs w O k env ρ orelse o) :
    Ex w O k env ρ (.If test body orelse pos) o := fun h₀ N A s E R S => by
  refine wpAny_If (wpAny_mono (t h₀ N O A s E R S) (fun v s' h => ?_) fun _ _ x => x)
  obtain ⟨rfl, K⟩ := h
  have S' := S.keeps (kHeap K)
  cases v with
  | true => exact wpAny_mono (x rfl h₀ N A s' E R S') (fun f s'' h => ⟨h.1, (kMoves K).trans h.2⟩) fun _ _ x => x
  | false => exact wpAny_mono (y rfl h₀ N A s' E R S') (fun f s'' h => ⟨h.1, (kMoves K).trans h.2⟩) fun _ _ x => x
theorem Ex.if_true {test body orelse pos o} (t : Tst w k env ρ test true) (x : Exs w O k env ρ body o) : Ex w O k env ρ (.If test body orelse pos) o := .ite t (fun _ => x) (fun e => nomatch e)
theorem Ex.if_false {test body orelse pos o} (t : Tst w k env ρ test false) (x : Exs w O k env ρ orelse o) : Ex w O k env ρ (.If test body orelse pos) o := .ite t (fun e => nomatch e) (fun _ => x)

end

end Mine
end

section
open PySem PySem.W PyProof.Rows PySem.Calls
set_option maxRecDepth 100000
namespace Mine

section
variable {w : World} {O : Addr → Prop} {k : Nat} {env : Env} {ρ : Ctx}

theorem seqKeep_of_but {h₀ : Heap} {N M : Addr → Prop} {env : Env} {h h' : Heap} {b : Addr} {ρ} (S : St h₀ N O env h ρ) (wb : Wr env b) (hs : Heap.SameBut b h h') : SeqKeep M h h' := fun c o xs n _ e d => by
  by_cases q : c = b
  · subst q; exact (S.wr_noseq wb e d).elim
  · exact (hs.2 c q).trans e

/-- after a store into the frame -/
theorem St.stored {h₀ : Heap} {N : Addr → Prop} {x : Str} {d : D} {ρ' : Ctx} {v : Value} {h h' : Heap} {b : Addr} (S : St h₀ N O env h ρ) (u : Upd ρ x d ρ') (r : ∀ h', (∀ M, SeqKeep M h h') → Bnd env h' x v → Has N env h' x d) (wb : Wr env b) (hs : Heap.SameBut b h h') (hself : ∃ o, h'.get? b = some o)
    (hb : Bnd env h' x v) (hns : ∃ m, h'.Ns env.locals m) (hcl : ∀ x c, env.cells.lookup x = some c → ∃ ov, h'.IsCell c ov)
    (hoth : ∀ y v', y ≠ x → Bnd env h y v' → Bnd env h' y v') : St h₀ N O env h' ρ' where
  kind := S.kind
  globs := S.globs
  blts := S.blts
  gh0 := S.gh0
  base := fun c o e => ⟨(hs.2 c (fun q' => (S.base c o e).2 (.inl (q' ▸ wb)))).trans (S.base c o e).1, (S.base c o e).2⟩
  al := fun c hc => by
    obtain ⟨o, e⟩ := S.al c hc
    by_cases q : c = b
    · subst q; exact hself
    · exact ⟨o, (hs.2 c q).trans e⟩
  sub := S.sub
  ns := hns
  cells := hcl
  apart := S.apart
  nodup := u.keys ▸ S.nodup
  dbg := fun e he => by
    rcases u.mem S.nodup e he with rfl | ⟨h, _⟩
    · obtain ⟨e', h'⟩ := u.ent; have q := S.dbg _ h'; exact q
    · exact S.dbg e h
  ents := fun e he => by
    have sk := seqKeep_of_but (M := N) S wb hs
    have sk0 := seqKeep_of_but (M := fun _ => False) S wb hs
    rcases u.mem S.nodup e he with rfl | ⟨h, q⟩
    · obtain ⟨e', hm⟩ := u.ent
      exact ⟨(S.ents _ hm).1, r h' (fun M => seqKeep_of_but S wb hs) hb⟩
    · obtain ⟨a, b⟩ := S.ents e h
      refine ⟨a, ?_⟩
      revert b
      generalize e.2 = d2
      intro b
      cases b with
      | undef => exact .undef
      | own B l r2 => exact .own (hoth _ _ q B) (let ⟨o, e, c, n, d⟩ := l; ⟨o, sk0 _ _ _ _ (fun f => f) e d.1, c, n, d⟩) (r2.stay sk)
      | rep B r2 => exact .rep (hoth _ _ q B) (r2.stay sk)

theorem store3G {h₀ : Heap} {N : Addr → Prop} {A : Around} {s : Shared} {E : Value → Shared → Prop} {x : Str} {d : D} {ρ' : Ctx} {v : Value} (S : St h₀ N O env s.heap ρ) (u : Upd ρ x d ρ') (r : ∀ h', (∀ M, SeqKeep M s.heap h') → Bnd env h' x v → Has N env h' x d) :
    wpAny (model PG w) A (storeName env x v) (fun _ s' => (St h₀ N O env s'.heap ρ' ∧ Moves (WO O env) s s') ∧ ∀ M, SeqKeep M s.heap s'.heap) E s := by
  obtain ⟨e', he'⟩ := u.ent
  rcases (S.ents _ he').1 with hl | ⟨hk, c, hc⟩
  · obtain ⟨m, hn⟩ := S.ns
    refine wpAny_storeName_local hl hn (fun h' hn' hs => ?_) (by rw [S.kind]; rfl)
    have wb : Wr env env.locals := .inl rfl
    refine ⟨?_, fun M => seqKeep_of_but S wb hs⟩
    refine ⟨S.stored u r wb hs (let ⟨o, _, _, e, _⟩ := hn'; ⟨o, e⟩) (.inl ⟨hl, _, hn', by simp⟩) ⟨_, hn'⟩ (fun y c hc => ?_) (fun y v' q B => ?_), ⟨h', _, rfl, fun b o nb e => (hs.2 b (fun q => nb (.inl (q ▸ wb)))).trans e⟩⟩
    · obtain ⟨ov, o, ho, hd⟩ := S.cells y c hc
      have hcl : c ≠ env.locals := fun q => by
        obtain ⟨o', es, ep, e', d', _⟩ := hn
        rw [← q, ho] at e'; cases e'; rw [hd] at d'; cases d'
      exact ⟨ov, o, (hs.2 c hcl).trans ho, hd⟩
    · rcases B with ⟨a, m2, n2, e2⟩ | ⟨a, c, l, i⟩
      · refine .inl ⟨a, _, hn', ?_⟩
        have : m y = m2 y := by
          obtain ⟨o1, es1, ep1, h1, d1, _, f1⟩ := hn
          obtain ⟨o2, es2, ep2, h2, d2, _, f2⟩ := n2
          rw [h1] at h2; cases h2; rw [d1] at d2; cases d2
          rw [← f1, ← f2]
        simp only [q, if_false, this, e2]
      · refine .inr ⟨a, c, l, ?_⟩
        obtain ⟨o, ho, hd⟩ := i
        have hcl : c ≠ env.locals := fun q => by
          obtain ⟨o', es, ep, e', d', _⟩ := hn
          rw [← q, ho] at e'; cases e'; rw [hd] at d'; cases d'
        exact ⟨o, (hs.2 c hcl).trans ho, hd⟩
  · obtain ⟨ov, hcell⟩ := S.cells x c hc
    have wb : Wr env c := .inr ⟨x, hc⟩
    have fin : ∀ h', h'.IsCell c (some v) → Heap.SameBut c s.heap h' → (St h₀ N O env h' ρ' ∧ Moves (WO O env) s { s with heap := h' }) ∧ ∀ M, SeqKeep M s.heap h' := fun h' hv' hs => by
      have hlc : env.locals ≠ c := fun q => by
        obtain ⟨m, o', es, ep, e', d', _⟩ := S.ns
        obtain ⟨o, ho, hd⟩ := hcell
        rw [q, ho] at e'; cases e'; rw [hd] at d'; cases d'
      refine ⟨?_, fun M => seqKeep_of_but S wb hs⟩
      refine ⟨S.stored u r wb hs (let ⟨o, e, _⟩ := hv'; ⟨o, e⟩) (.inr ⟨hk, c, hc, hv'⟩) (let ⟨m, hn⟩ := S.ns; ⟨m, hn.sameBut hs hlc⟩) (fun y c' hc' => ?_) (fun y v' q B => ?_), ⟨h', _, rfl, fun b o nb e => (hs.2 b (fun q => nb (.inl (q ▸ wb)))).trans e⟩⟩
      · by_cases q : c' = c
        · subst q; exact ⟨_, hv'⟩
        · obtain ⟨ov, i⟩ := S.cells y c' hc'; exact ⟨ov, i.sameBut hs q⟩
      · rcases B with ⟨a, m2, n2, e2⟩ | ⟨a, c', l, i⟩
        · exact .inl ⟨a, m2, n2.sameBut hs hlc, e2⟩
        · refine .inr ⟨a, c', l, i.sameBut hs fun q' => q ?_⟩
          subst q'; exact S.apart y x c' l hc
    rcases hk with hk | hk
    · exact wpAny_storeName_cell S.kind hk hc hcell fun h' hv' hs => fin h' hv' hs
    · unfold storeName
      simp only [hk, S.kind]
      exact wpAny_bind (wpAny_cellOf hc (wpAny_cellSet hcell fun h' hv' hs => fin h' hv' hs))

theorem store3 {h₀ : Heap} {N : Addr → Prop} {A : Around} {s : Shared} {E : Value → Shared → Prop} {x : Str} {d : D} {ρ' : Ctx} {v : Value} (S : St h₀ N O env s.heap ρ) (u : Upd ρ x d ρ') (r : Rep N s.heap d v) :
    wpAny (model PG w) A (storeName env x v) (fun _ s' => (St h₀ N O env s'.heap ρ' ∧ Moves (WO O env) s s') ∧ ∀ M, SeqKeep M s.heap s'.heap) E s :=
  store3G S u fun h' sk hb => .rep hb (r.stay (sk N))

theorem store {h₀ : Heap} {N : Addr → Prop} {A : Around} {s : Shared} {E : Value → Shared → Prop} {x : Str} {d : D} {ρ' : Ctx} {v : Value} (S : St h₀ N O env s.heap ρ) (u : Upd ρ x d ρ') (r : Rep N s.heap d v) :
    wpAny (model PG w) A (storeName env x v) (fun _ s' => St h₀ N O env s'.heap ρ' ∧ Moves (WO O env) s s') E s :=
  wpAny_mono (store3 S u r) (fun _ _ h => h.1) fun _ _ x => x

/-! ## names, constants -/
/-- an entry that is a plain datum -/
def D.plain : D → Bool
  | .undef | .own _ _ => false
  | _ => true
theorem load {h₀ : Heap} {N : Addr → Prop} {A : Around} {s : Shared} {E : Value → Shared → Prop} {x d} (S : St h₀ N O env s.heap ρ) (a : At ρ x d) (hd : d.plain = true) :
    wpAny (model PG w) A (loadName env x) (fun v s' => Rep N s'.heap d v ∧ Keeps s s') E s := by
  obtain ⟨hs, h⟩ := S.ents _ a.mem
  obtain ⟨n1, n2⟩ := S.dbg _ a.mem
  have h' : Has N env s.heap x d := h
  cases h' with
  | undef => cases hd
  | own => cases hd
  | rep B r =>
    have fin := And.intro r (kRefl s)
    rcases B with ⟨a, m, n, e⟩ | ⟨a, c, l, i⟩
    · exact wpAny_loadName_local S.kind a n e fin
    · rcases a with a | a
      · exact wpAny_loadName_cell S.kind a l i fin
      · exact wpAny_loadName_free S.kind a l i fin n2
theorem Ev.name {x pos d} (a : At ρ x d) (hd : d.plain = true) : Ev w k env ρ (.Name x pos) d := fun h₀ N O A s E R S =>
  wpAny_Name (load S a hd) (S.dbg _ a.mem).1

theorem Ev.const_int {i kk pos} : Ev w k env ρ (.Constant (.int i) kk pos) (.int i) := fun h₀ N O A s E R S => wpAny_Constant_int ⟨.int_mk, kToks _⟩
theorem Ev.const_bytes {b kk pos} : Ev w k env ρ (.Constant (.bytes b) kk pos) (.bytes b) := fun h₀ N O A s E R S => Constant_bytes ⟨.bytes_mk, kToks _⟩
theorem Ev.const_bool {b kk pos} : Ev w k env ρ (.Constant (.bool b) kk pos) (.bool b) := fun h₀ N O A s E R S => by
  show wpAny _ A (pure (Value.bool b)) _ E s
  exact wpAny_pure ⟨.val_mk, kRefl _⟩
theorem Ev.const_none {kk pos} : Ev w k env ρ (.Constant .none kk pos) .none := fun h₀ N O A s E R S => by
  show wpAny _ A (pure Value.none) _ E s
  exact wpAny_pure ⟨.val_mk, kRefl _⟩

theorem Ex.assign {x pos' e pos d ρ'} (a : Ev w k env ρ e d) (u : Upd ρ x d ρ') (hs : swapsWith e (some (.Name x pos')) pos.line env = pure false := by with_unfolding_all rfl) :
    Ex w O k env ρ (.Assign [.Name x pos'] e pos) (.next ρ') := fun h₀ N A s E R S => by
  refine wpAny_Assign_Name (wpAny_mono (a h₀ N O A s E R S) (fun v s' h => ?_) fun _ _ x => x) hs
  exact wpAny_mono (store (S.keeps (kHeap h.2)) u h.1) (fun _ s'' h' => ⟨⟨rfl, h'.1⟩, (kMoves h.2).trans h'.2⟩) fun _ _ x => x

/-! ## operators -/
theorem Reps.two {N h a b v u} (x : Rep N h a v) (y : Rep N h b u) : Reps N h [a, b] [v, u] := .cons x (.cons y .nil)
theorem Reps.one {N h a v} (x : Rep N h a v) : Reps N h [a] [v] := .cons x .nil
theorem Reps.one_inv {N h a vs} (x : Reps N h [a] vs) : ∃ v, vs = [v] ∧ Rep N h a v := by
  simp only [Reps] at x; obtain ⟨v, r, rfl, x, rfl⟩ := x; exact ⟨v, rfl, x⟩
theorem Reps.two_inv {N h a b vs} (x : Reps N h [a, b] vs) : ∃ v u, vs = [v, u] ∧ Rep N h a v ∧ Rep N h b u := by
  simp only [Reps] at x; obtain ⟨v, r, rfl, x, v', r', rfl, y, rfl⟩ := x; exact ⟨v, v', rfl, x, y⟩
theorem Reps.three_inv {N h a b c vs} (x : Reps N h [a, b, c] vs) : ∃ v u t, vs = [v, u, t] ∧ Rep N h a v ∧ Rep N h b u ∧ Rep N h c t := by
  simp only [Reps] at x; obtain ⟨v, r, rfl, x, v', r', rfl, y, v'', r'', rfl, z, rfl⟩ := x; exact ⟨v, v', v'', rfl, x, y, z⟩

def two (f : Value → Value → Sem Value) : List Value → Sem Value
  | [a, b] => f a b
  | _ => unsupported ""
def one (f : Value → Sem Value) : List Value → Sem Value
  | [a] => f a
  | _ => unsupported ""
def oneB (f : Value → Sem Bool) : List Value → Sem Bool
  | [a] => f a
  | _ => unsupported ""

abbrev Bin (w : World) (k : Nat) (op : Operator) (a b d : D) : Prop := Op w k (two (binaryOp op)) [a, b] d
abbrev Cmp (w : World) (k : Nat) (op : CmpOp) (a b : D) (r : Bool) : Prop := Op w k (two (compareOp op)) [a, b] (.bool r)
abbrev Tru (w : World) (k : Nat) (a : D) (r : Bool) : Prop := OpB w k (oneB truthy) [a] r
abbrev Una (w : World) (k : Nat) (op : UnaryOp) (a d : D) : Prop := Op w k (one (unaryOp op)) [a] d

theorem Op.mk2 {f a b d} (h : ∀ N A s E v u, Room k A → GH s.heap → Al N s.heap → Rep N s.heap a v → Rep N s.heap b u → wpAny (model PG w) A (f v u) (fun v s' => Rep N s'.heap d v ∧ Keeps s s') E s) : Op w k (two f) [a, b] d := fun N A s E vs R G al r => by
  obtain ⟨v, u, rfl, x, y⟩ := r.two_inv
  exact h N A s E v u R G al x y
theorem Op.mk1 {f a d} (h : ∀ N A s E v, Room k A → GH s.heap → Al N s.heap → Rep N s.heap a v → wpAny (model PG w) A (f v) (fun v s' => Rep N s'.heap d v ∧ Keeps s s') E s) : Op w k (one f) [a] d := fun N A s E vs R G al r => by
  obtain ⟨v, rfl, x⟩ := r.one_inv
  exact h N A s E v R G al x
theorem OpB.mk1 {f a d} (h : ∀ N A s E v, Room k A → GH s.heap → Al N s.heap → Rep N s.heap a v → wpAny (model PG w) A (f v) (fun v s' => v = d ∧ Keeps s s') E s) : OpB w k (oneB f) [a] d := fun N A s E vs R G al r => by
  obtain ⟨v, rfl, x⟩ := r.one_inv
  exact h N A s E v R G al x

theorem Ev.binop {l op r pos a b d} (x : Ev w k env ρ l a) (y : Ev w k env ρ r b) (o : Bin w k op a b d) : Ev w k env ρ (.BinOp l op r pos) d := fun h₀ N O A s E R S => by
  refine wpAny_BinOp (wpAny_mono (x h₀ N O A s E R S) (fun v s₁ h₁ => wpAny_mono (y h₀ N O A s₁ E R (S.keeps (kHeap h₁.2))) (fun u s₂ h₂ => ?_) fun _ _ x => x) fun _ _ x => x)
  refine wpAny_mono (o N A s₂ E [v, u] R ((S.keeps (kHeap h₁.2)).keeps (kHeap h₂.2)).gh ((S.keeps (kHeap h₁.2)).keeps (kHeap h₂.2)).al (.two (h₁.1.keeps (kHeap h₂.2)) h₂.1)) (fun r s₃ h₃ => ?_) fun _ _ x => x
  exact ⟨h₃.1, kTrans h₁.2 (kTrans h₂.2 h₃.2)⟩
theorem Ev.compare {l op r pos a b c} (x : Ev w k env ρ l a) (y : Ev w k env ρ r b) (o : Cmp w k op a b c) (hm : behindInMarks op r = false := by with_unfolding_all rfl) : Ev w k env ρ (.Compare l [op] [r] pos) (.bool c) := fun h₀ N O A s E R S => by
  refine wpAny_Compare1 (wpAny_mono (x h₀ N O A s E R S) (fun v s₁ h₁ => wpAny_mono (y h₀ N O A s₁ E R (S.keeps (kHeap h₁.2))) (fun u s₂ h₂ => ?_) fun _ _ x => x) fun _ _ x => x) hm
  refine wpAny_mono (o N A s₂ E [v, u] R ((S.keeps (kHeap h₁.2)).keeps (kHeap h₂.2)).gh ((S.keeps (kHeap h₁.2)).keeps (kHeap h₂.2)).al (.two (h₁.1.keeps (kHeap h₂.2)) h₂.1)) (fun r s₃ h₃ => ?_) fun _ _ x => x
  exact ⟨h₃.1, kTrans h₁.2 (kTrans h₂.2 h₃.2)⟩
theorem Tst.compare {l op r pos a b c} (x : Ev w k env ρ l a) (y : Ev w k env ρ r b) (o : Cmp w k op a b c) (hm : behindInMarks op r = false := by with_unfolding_all rfl) : Tst w k env ρ (.Compare l [op] [r] pos) c := fun h₀ N O A s E R S => by
  refine wpAny_isTrue_Compare1 (wpAny_mono (x h₀ N O A s E R S) (fun v s₁ h₁ => wpAny_mono (y h₀ N O A s₁ E R (S.keeps (kHeap h₁.2))) (fun u s₂ h₂ => ?_) fun _ _ x => x) fun _ _ x => x) hm
  refine wpAny_mono (o N A s₂ E [v, u] R ((S.keeps (kHeap h₁.2)).keeps (kHeap h₂.2)).gh ((S.keeps (kHeap h₁.2)).keeps (kHeap h₂.2)).al (.two (h₁.1.keeps (kHeap h₂.2)) h₂.1)) (fun r s₃ h₃ => ?_) fun _ _ x => x
  obtain rfl := h₃.1.val_inv
  exact wpAny_truthy_bool ⟨rfl, kTrans h₁.2 (kTrans h₂.2 h₃.2)⟩

theorem Ev.unary {op e pos a d} (x : Ev w k env ρ e a) (o : Una w k op a d) : Ev w k env ρ (.UnaryOp op e pos) d := fun h₀ N O A s E R S => by
  show wpAny _ A (do let v ← eval e env; standAt pos; holding [v] (unaryOp op v)) _ E s
  refine wpAny_bind (wpAny_mono (x h₀ N O A s E R S) (fun v s₁ h₁ => wpAny_bind (wpAny_standAt (wpAny_holding ?_))) fun _ _ x => x)
  exact wpAny_mono (o N A s₁ E [v] R (S.keeps (kHeap h₁.2)).gh (S.keeps (kHeap h₁.2)).al (.one h₁.1)) (fun r s₂ h₂ => ⟨h₂.1, kTrans h₁.2 h₂.2⟩) fun _ _ x => x

theorem Tst.not {e pos b} (x : Tst w k env ρ e b) : Tst w k env ρ (.UnaryOp .Not e pos) (!b) := fun h₀ N O A s E R S => by
  show wpAny _ A (do return !(← isTrue e env (eval e env))) _ E s
  exact wpAny_bind (wpAny_mono (x h₀ N O A s E R S) (fun v s₁ h₁ => wpAny_pure ⟨by rw [h₁.1], h₁.2⟩) fun _ _ x => x)

/-- a plain test: its truth -/
theorem Tst.plain {e a b} (x : Ev w k env ρ e a) (o : Tru w k a b) (he : isTrue e env (eval e env) = (do let v ← eval e env; standAt e.pos; holding [v] (truthy v)) := by with_unfolding_all rfl) : Tst w k env ρ e b := fun h₀ N O A s E R S => by
  rw [he]
  refine wpAny_bind (wpAny_mono (x h₀ N O A s E R S) (fun v s₁ h₁ => wpAny_bind (wpAny_standAt (wpAny_holding ?_))) fun _ _ x => x)
  exact wpAny_mono (o N A s₁ E [v] R (S.keeps (kHeap h₁.2)).gh (S.keeps (kHeap h₁.2)).al (.one h₁.1)) (fun r s₂ h₂ => ⟨h₂.1, kTrans h₁.2 h₂.2⟩) fun _ _ x => x

theorem Tst.and_true {e pos r rs b} (x : Tst w k env ρ e true) (y : Tst w k env ρ (.BoolOp .And (r :: rs) pos) b) : Tst w k env ρ (.BoolOp .And (e :: r :: rs) pos) b := fun h₀ N O A s E R S => by
  show wpAny _ A (do match BoolOp.And, ← isTrue e env (eval e env) with | .And, false => pure false | .Or, true => pure true | _, _ => allTrue .And (r :: rs) env) _ E s
  refine wpAny_bind (wpAny_mono (x h₀ N O A s E R S) (fun v s₁ h₁ => ?_) fun _ _ x => x)
  obtain ⟨rfl, K⟩ := h₁
  exact wpAny_mono (y h₀ N O A s₁ E R (S.keeps (kHeap K))) (fun r s₂ h₂ => ⟨h₂.1, kTrans K h₂.2⟩) fun _ _ x => x
theorem Tst.and_false {e pos rs} (x : Tst w k env ρ e false) : Tst w k env ρ (.BoolOp .And (e :: rs) pos) false := fun h₀ N O A s E R S => by
  show wpAny _ A (do match BoolOp.And, ← isTrue e env (eval e env) with | .And, false => pure false | .Or, true => pure true | _, _ => allTrue .And rs env) _ E s
  refine wpAny_bind (wpAny_mono (x h₀ N O A s E R S) (fun v s₁ h₁ => ?_) fun _ _ x => x)
  obtain ⟨rfl, K⟩ := h₁
  exact wpAny_pure ⟨rfl, K⟩
theorem Tst.or_false {e pos r rs b} (x : Tst w k env ρ e false) (y : Tst w k env ρ (.BoolOp .Or (r :: rs) pos) b) : Tst w k env ρ (.BoolOp .Or (e :: r :: rs) pos) b := fun h₀ N O A s E R S => by
  show wpAny _ A (do match BoolOp.Or, ← isTrue e env (eval e env) with | .And, false => pure false | .Or, true => pure true | _, _ => allTrue .Or (r :: rs) env) _ E s
  refine wpAny_bind (wpAny_mono (x h₀ N O A s E R S) (fun v s₁ h₁ => ?_) fun _ _ x => x)
  obtain ⟨rfl, K⟩ := h₁
  exact wpAny_mono (y h₀ N O A s₁ E R (S.keeps (kHeap K))) (fun r s₂ h₂ => ⟨h₂.1, kTrans K h₂.2⟩) fun _ _ x => x
theorem Tst.or_true {e pos rs} (x : Tst w k env ρ e true) : Tst w k env ρ (.BoolOp .Or (e :: rs) pos) true := fun h₀ N O A s E R S => by
  show wpAny _ A (do match BoolOp.Or, ← isTrue e env (eval e env) with | .And, false => pure false | .Or, true => pure true | _, _ => allTrue .Or rs env) _ E s
  refine wpAny_bind (wpAny_mono (x h₀ N O A s E R S) (fun v s₁ h₁ => ?_) fun _ _ x => x)
  obtain ⟨rfl, K⟩ := h₁
  exact wpAny_pure ⟨rfl, K⟩
/-- the last of an and, an or -/
theorem Tst.last {op e pos b} (x : Tst w k env ρ e b) : Tst w k env ρ (.BoolOp op [e] pos) b := fun h₀ N O A s E R S => by
  show wpAny _ A (do match op, ← isTrue e env (eval e env) with | .And, false => pure false | .Or, true => pure true | _, _ => pure (op == .And)) _ E s
  refine wpAny_bind (wpAny_mono (x h₀ N O A s E R S) (fun v s₁ h₁ => ?_) fun _ _ x => x)
  obtain ⟨rfl, K⟩ := h₁
  cases op <;> cases v <;> exact wpAny_pure ⟨rfl, K⟩

/-- `a or b` as a value -/
theorem Ev.or_true {e pos r rs a} (x : Ev w k env ρ e a) (t : Tru w k a true) : Ev w k env ρ (.BoolOp .Or (e :: r :: rs) pos) a := fun h₀ N O A s E R S => by
  show wpAny _ A (do let v ← eval e env; standAt pos; let t ← holding [v] (truthy v); match BoolOp.Or, t with | .And, false | .Or, true => pure v | _, _ => boolOp pos .Or (evalEach (r :: rs) env)) _ E s
  refine wpAny_bind (wpAny_mono (x h₀ N O A s E R S) (fun v s₁ h₁ => wpAny_bind (wpAny_standAt (wpAny_bind (wpAny_holding ?_)))) fun _ _ x => x)
  refine wpAny_mono (t N A s₁ E [v] R (S.keeps (kHeap h₁.2)).gh (S.keeps (kHeap h₁.2)).al (.one h₁.1)) (fun b s₂ h₂ => ?_) fun _ _ x => x
  obtain ⟨rfl, K⟩ := h₂
  exact wpAny_pure ⟨h₁.1.keeps (kHeap K), kTrans h₁.2 K⟩
theorem Ev.or_false {e pos r a d} (x : Ev w k env ρ e a) (t : Tru w k a false) (y : Ev w k env ρ r d) : Ev w k env ρ (.BoolOp .Or [e, r] pos) d := fun h₀ N O A s E R S => by
  show wpAny _ A (do let v ← eval e env; standAt pos; let t ← holding [v] (truthy v); match BoolOp.Or, t with | .And, false | .Or, true => pure v | _, _ => eval r env) _ E s
  refine wpAny_bind (wpAny_mono (x h₀ N O A s E R S) (fun v s₁ h₁ => wpAny_bind (wpAny_standAt (wpAny_bind (wpAny_holding ?_)))) fun _ _ x => x)
  refine wpAny_mono (t N A s₁ E [v] R (S.keeps (kHeap h₁.2)).gh (S.keeps (kHeap h₁.2)).al (.one h₁.1)) (fun b s₂ h₂ => ?_) fun _ _ x => x
  obtain ⟨rfl, K⟩ := h₂
  exact wpAny_mono (y h₀ N O A s₂ E R (S.keeps (kHeap (kTrans h₁.2 K)))) (fun v s₃ h₃ => ⟨h₃.1, kTrans (kTrans h₁.2 K) h₃.2⟩) fun _ _ x => x
theorem Ev.ifexp_true {t b o pos d} (x : Tst w k env ρ t true) (y : Ev w k env ρ b d) : Ev w k env ρ (.IfExp t b o pos) d := fun h₀ N O A s E R S => by
  show wpAny _ A (do if ← isTrue t env (eval t env) then eval b env else eval o env) _ E s
  refine wpAny_bind (wpAny_mono (x h₀ N O A s E R S) (fun v s₁ h₁ => ?_) fun _ _ x => x)
  obtain ⟨rfl, K⟩ := h₁
  exact wpAny_mono (y h₀ N O A s₁ E R (S.keeps (kHeap K))) (fun v s₂ h₂ => ⟨h₂.1, kTrans K h₂.2⟩) fun _ _ x => x
theorem Ev.ifexp_false {t b o pos d} (x : Tst w k env ρ t false) (y : Ev w k env ρ o d) : Ev w k env ρ (.IfExp t b o pos) d := fun h₀ N O A s E R S => by
  show wpAny _ A (do if ← isTrue t env (eval t env) then eval b env else eval o env) _ E s
  refine wpAny_bind (wpAny_mono (x h₀ N O A s E R S) (fun v s₁ h₁ => ?_) fun _ _ x => x)
  obtain ⟨rfl, K⟩ := h₁
  exact wpAny_mono (y h₀ N O A s₁ E R (S.keeps (kHeap K))) (fun v s₂ h₂ => ⟨h₂.1, kTrans K h₂.2⟩) fun _ _ x => x
end
end Mine
end

section
open PySem PySem.W PyProof.Rows PySem.Calls
set_option maxRecDepth 100000
namespace Mine

/-- the contract of a def of the text -/
def Fn (w : World) (k : Nat) (f : FnRec) (ds : List D) (d : D) : Prop :=
  ∀ (N : Addr → Prop) (A : Around) (s : Shared) (E : Value → Shared → Prop) (a : Addr) (vs : List Value) (mg : Str → Option Value), Room k A → GH s.heap → Al N s.heap → s.heap.Ns mainGlobals mg → FnIs mg s.heap f a → Reps N s.heap ds vs →
    wpAny (model PG w) A (call (.ref a) vs) (fun v s' => Rep N s'.heap d v ∧ Keeps s s') E s

theorem Fn.mono_k {w k j f ds d} (a : Fn w j f ds d) (h : j ≤ k) : Fn w k f ds d := fun N A s E x vs mg R G al n i r => a N A s E x vs mg (R.le h) G al n i r

theorem FnIs.keeps {mg h h' f a} (x : FnIs mg h f a) (k : ∀ b o, h.get? b = some o → h'.get? b = some o) : FnIs mg h' f a :=
  let ⟨o, pm, c, d, h1, h2, h3, h4⟩ := x; ⟨o, pm, c, d, h1, k _ _ h2, h3, h4.keeps k⟩

section
variable {w : World} {O : Addr → Prop} {k : Nat} {env : Env} {ρ : Ctx}

theorem Evs.nil : Evs w k env ρ [] [] := fun h₀ N O A s E pos R S => args_nil ⟨.nil, kRefl s⟩
theorem Evs.cons {e rest d ds} (x : Ev w k env ρ e d) (y : Evs w k env ρ rest ds) (he : starEach (e :: rest) env = (false, eval e env) :: starEach rest env := by with_unfolding_all rfl) : Evs w k env ρ (e :: rest) (d :: ds) := fun h₀ N O A s E pos R S => by
  refine args_cons (wpAny_mono (x h₀ N O A s E R S) (fun v s₁ h₁ => wpAny_mono (y h₀ N O A s₁ E pos R (S.keeps (kHeap h₁.2))) (fun vs s₂ h₂ => ?_) fun _ _ x => x) fun _ _ x => x) he
  exact ⟨.cons (h₁.1.keeps (kHeap h₂.2)) h₂.1, kTrans h₁.2 h₂.2⟩

theorem Ev.gname {h₀ : Heap} {N : Addr → Prop} {x : Str} {pos} {Q : Value → Shared → Prop} {A s E} (S : St h₀ N O env s.heap ρ) (hx : env.kindOf x = some .globalImplicit) (hd : (x == ("__debug__" : Str)) = false)
    (h : wpAny (model PG w) A (loadGlobal env x) Q E s) : wpAny (model PG w) A (eval (.Name x pos) env) Q E s := Name_function_global S.kind hx h hd

theorem Ev.call_fn {x : Str} {p : Pos} {e : Expr} {rest : List Expr} {pos : Pos} {f : FnRec} {ds : List D} {d : D} (F : Fn w k f ds d) (hf : f ∈ allFns) (hn : f.name = x) (ha : Evs w k env ρ (e :: rest) ds)
    (hx : env.kindOf x = some .globalImplicit := by with_unfolding_all rfl) (hd : (x == ("__debug__" : Str)) = false := by decide) (he : starEach (e :: rest) env = (false, eval e env) :: starEach rest env := by with_unfolding_all rfl) :
    Ev w k env ρ (.Call (.Name x p) (e :: rest) [] pos) d := fun h₀ N O A s E R S => by
  obtain ⟨mg, mb, G⟩ := S.gh
  obtain ⟨a, I⟩ := G.fn f hf
  have I' := I
  obtain ⟨o, pm, c, doc, h1, h2, h3, h4⟩ := I'
  refine Call_ (Ev.gname S hx hd (loadGlobal_global (S.globs ▸ G.g) (v := .ref a) (hn ▸ h1) ?_))
  refine callWith_def (o := o) h3 (wpAny_mono (ha h₀ N O A s E pos R S) (fun vs s₁ h => ⟨kHeap h.2 _ _ h2, ?_⟩) fun _ _ x => x) he
  exact wpAny_mono (F N A s₁ E a vs mg R (S.keeps (kHeap h.2)).gh (S.keeps (kHeap h.2)).al (G.g.keeps (kHeap h.2)) (I.keeps (kHeap h.2)) h.1) (fun v s₂ h' => ⟨h'.1, kTrans h.2 h'.2⟩) fun _ _ x => x

theorem bltName {h₀ : Heap} {N : Addr → Prop} {x : Str} {pos} {v : Value} {Q : Value → Shared → Prop} {A s E} (S : St h₀ N O env s.heap ρ) (hx : env.kindOf x = some .globalImplicit) (hd : (x == ("__debug__" : Str)) = false)
    (hf : x ∈ freeNames) (hb : bootBuiltins x = some v) (h : Q v s) : wpAny (model PG w) A (eval (.Name x pos) env) Q E s := by
  obtain ⟨mg, mb, G⟩ := S.gh
  obtain ⟨g1, g2⟩ := G.free x hf
  exact Ev.gname S hx hd (loadGlobal_builtin (S.globs ▸ G.g) g1 (S.blts ▸ G.b) (g2.trans hb) h)

theorem Ev.blt {x : Str} {pos} {v : Value} (hb : bootBuiltins x = some v) (hf : x ∈ freeNames) (hx : env.kindOf x = some .globalImplicit := by with_unfolding_all rfl) (hd : (x == ("__debug__" : Str)) = false := by decide) : Ev w k env ρ (.Name x pos) (.val v) := fun h₀ N O A s E R S =>
  bltName S hx hd hf hb ⟨.val_mk, kRefl s⟩

theorem Ev.call_blt {x : Str} {p : Pos} {e : Expr} {rest : List Expr} {pos : Pos} {id : String} {ds : List D} {d : D} (hb : bootBuiltins x = some (.builtin id)) (hf : x ∈ freeNames) (ha : Evs w k env ρ (e :: rest) ds) (o : Op w k (fun vs => call (.builtin id) vs) ds d)
    (hx : env.kindOf x = some .globalImplicit := by with_unfolding_all rfl) (hd : (x == ("__debug__" : Str)) = false := by decide) (he : starEach (e :: rest) env = (false, eval e env) :: starEach rest env := by with_unfolding_all rfl)
    (hplain : ∀ pos, (backTo pos (starEach rest env)).any (·.1) = false := by intro _; with_unfolding_all rfl) :
    Ev w k env ρ (.Call (.Name x p) (e :: rest) [] pos) d := fun h₀ N O A s E R S => by
  refine Call_ (bltName S hx hd hf hb ?_)
  refine callWith_builtin1 (wpAny_mono (ha h₀ N O A s E pos R S) (fun vs s₁ h => ?_) fun _ _ x => x) he (hplain pos)
  exact wpAny_mono (o N A s₁ E vs R (S.keeps (kHeap h.2)).gh (S.keeps (kHeap h.2)).al h.1) (fun v s₂ h' => ⟨h'.1, kTrans h.2 h'.2⟩) fun _ _ x => x

theorem Ev.call_type {x : Str} {p : Pos} {e : Expr} {rest : List Expr} {pos : Pos} {T : String} {ds : List D} {d : D} (hb : bootBuiltins x = some (.type T)) (hf : x ∈ freeNames) (ha : Evs w k env ρ (e :: rest) ds) (o : Op w k (fun vs => call (.type T) vs) ds d)
    (hx : env.kindOf x = some .globalImplicit := by with_unfolding_all rfl) (hd : (x == ("__debug__" : Str)) = false := by decide) (he : starEach (e :: rest) env = (false, eval e env) :: starEach rest env := by with_unfolding_all rfl)
    (hplain : ∀ pos, (backTo pos (starEach rest env)).any (·.1) = false := by intro _; with_unfolding_all rfl) :
    Ev w k env ρ (.Call (.Name x p) (e :: rest) [] pos) d := fun h₀ N O A s E R S => by
  refine Call_ (bltName S hx hd hf hb ?_)
  rw [he]
  refine PySem.callWith_type (by show (false || (backTo pos (starEach rest env)).any (·.1)) = false; rw [hplain]; rfl) ?_
  refine evalArgs_plain (x := eval e env) (rest := backTo pos (starEach rest env)) ?_
  have := ha h₀ N O A s E pos R S
  rw [he] at this
  refine wpAny_mono this (fun vs s₁ h => ?_) fun _ _ x => x
  exact wpAny_mono (o N A s₁ E vs R (S.keeps (kHeap h.2)).gh (S.keeps (kHeap h.2)).al h.1) (fun v s₂ h' => ⟨h'.1, kTrans h.2 h'.2⟩) fun _ _ x => x

/-! ## displays -/
theorem Ev.tuple {es kk pos ds} (ha : Evs w k env ρ es ds) (hsz : ds.length ≤ sizeLine) : Ev w k env ρ (.Tuple es kk pos) (.tuple ds) := fun h₀ N O A s E R S => by
  refine Tuple_ (wpAny_mono (ha h₀ N O A s E pos R S) (fun vs s₁ h => ?_) fun _ _ x => x)
  have hv : vs.length = ds.length := h.1.length
  refine wpAny_newObj_type ⟨.tuple_mk (vs := vs) (S.keeps (kHeap h.2)).al.fresh ⟨_, Heap.get?_push_size _ rfl, rfl, _, rfl⟩ (h.1.keeps fun _ _ e => Heap.get?_push_of_some _ e), kTrans h.2 (kPush _)⟩ ?_
  show vs.toArray.size ≤ sizeLine
  rw [List.size_toArray, hv]; exact hsz
theorem Ev.list {es pos ds} (ha : Evs w k env ρ es ds) (hsz : ds.length ≤ sizeLine) : Ev w k env ρ (.List es pos) (.list ds) := fun h₀ N O A s E R S => by
  refine List_ (wpAny_mono (ha h₀ N O A s E pos R S) (fun vs s₁ h => ?_) fun _ _ x => x)
  have hv : vs.length = ds.length := h.1.length
  refine wpAny_newObj_type ⟨.list_mk (vs := vs) (S.keeps (kHeap h.2)).al.fresh ⟨_, Heap.get?_push_size _ rfl, rfl, _, rfl⟩ (h.1.keeps fun _ _ e => Heap.get?_push_of_some _ e), kTrans h.2 (kPush _)⟩ ?_
  show vs.toArray.size ≤ sizeLine
  rw [List.size_toArray, hv]; exact hsz

/-! ## subscripts -/
def Itm (w : World) (k : Nat) (dv di d : D) : Prop := ∀ N A s E v u, Room k A → GH s.heap → Al N s.heap → Rep N s.heap dv v → Rep N s.heap di u → ItemOn (model PG w) A E v u (fun r s' => Rep N s'.heap d r ∧ Keeps s s') s
def Sli (w : World) (k : Nat) (dv : D) (lo hi st : Option Int) (d : D) : Prop := ∀ N A s E v a l u t, Room k A → GH s.heap → Al N s.heap → Rep N s.heap dv v → IsPart l lo → IsPart u hi → IsPart t st → s.heap.IsSliceOf a l u t → ItemOn (model PG w) A E v (.ref a) (fun r s' => Rep N s'.heap d r ∧ Keeps s s') s

theorem Ev.item {value slice pos dv di d} (x : Ev w k env ρ value dv) (y : Ev w k env ρ slice di) (o : Itm w k dv di d) (hs : ∀ v u, subscripted slice false v u = operate [v, u] (getItem v u) := by intro _ _; with_unfolding_all rfl) : Ev w k env ρ (.Subscript value slice pos) d := fun h₀ N O A s E R S => by
  refine Subscript_ (wpAny_mono (x h₀ N O A s E R S) (fun v s₁ h₁ => wpAny_mono (y h₀ N O A s₁ E R (S.keeps (kHeap h₁.2))) (fun u s₂ h₂ => ?_) fun _ _ x => x) fun _ _ x => x)
  obtain ⟨T, id, hl, hT, hg⟩ := o N A s₂ E v u R ((S.keeps (kHeap h₁.2)).keeps (kHeap h₂.2)).gh ((S.keeps (kHeap h₁.2)).keeps (kHeap h₂.2)).al (h₁.1.keeps (kHeap h₂.2)) h₂.1
  exact tail_any hT hl (wpAny_mono hg (fun r s₃ h₃ => ⟨h₃.1, kTrans h₁.2 (kTrans h₂.2 h₃.2)⟩) fun _ _ x => x) (hs v u)

/-- a bound of a slice -/
def Bd (w : World) (k : Nat) (env : Env) (ρ : Ctx) (e : Option Expr) (i : Option Int) : Prop :=
  ∀ (h₀ : Heap) (N O : Addr → Prop) (A : Around) (s : Shared) (E : Value → Shared → Prop), Room k A → St h₀ N O env s.heap ρ →
    wpAny (model PG w) A (valueOrNone (evalOpt e env)) (fun v s' => IsPart v i ∧ Keeps s s') E s
theorem Bd.none : Bd w k env ρ none none := fun h₀ N O A s E R S => by
  show wpAny _ A (pure Value.none) _ E s
  exact wpAny_pure ⟨.none, kRefl s⟩
theorem Bd.some {e i} (x : Ev w k env ρ e (.int i)) : Bd w k env ρ (some e) (some i) := fun h₀ N O A s E R S => by
  show wpAny _ A (eval e env) _ E s
  refine wpAny_mono (x h₀ N O A s E R S) (fun v s₁ h => ?_) fun _ _ x => x
  obtain ⟨t, rfl⟩ := h.1.int_inv
  exact ⟨.int i t, h.2⟩

theorem Ev.slice {value lower upper step p pos dv lo hi st d} (x : Ev w k env ρ value dv) (bl : Bd w k env ρ lower lo) (bu : Bd w k env ρ upper hi) (bs : Bd w k env ρ step st) (o : Sli w k dv lo hi st d)
    (hs : ∀ v u, ∃ ops, subscripted (.Slice lower upper step p) false v u = operate ops (getItem v u) := by intro _ _; exact ⟨_, by with_unfolding_all rfl⟩) :
    Ev w k env ρ (.Subscript value (.Slice lower upper step p) pos) d := fun h₀ N O A s E R S => by
  refine Subscript_ (wpAny_mono (x h₀ N O A s E R S) (fun v s₁ h₁ => ?_) fun _ _ x => x)
  have S1 := S.keeps (kHeap h₁.2)
  show wpAny _ A (do let l ← valueOrNone (evalOpt lower env); let u ← holding [l] (valueOrNone (evalOpt upper env)); let t ← holding [l, u] (valueOrNone (evalOpt step env)); newFields "slice" [l, u, t]) _ E s₁
  refine wpAny_bind (wpAny_mono (bl h₀ N O A s₁ E R S1) (fun l s₂ h₂ => ?_) fun _ _ x => x)
  have S2 := S1.keeps (kHeap h₂.2)
  refine wpAny_bind (wpAny_holding (wpAny_mono (bu h₀ N O A s₂ E R S2) (fun u s₃ h₃ => ?_) fun _ _ x => x))
  have S3 := S2.keeps (kHeap h₃.2)
  refine wpAny_bind (wpAny_holding (wpAny_mono (bs h₀ N O A s₃ E R S3) (fun t s₄ h₄ => ?_) fun _ _ x => x))
  have S4 := S3.keeps (kHeap h₄.2)
  have K : Keeps s₁ s₄ := kTrans h₂.2 (kTrans h₃.2 h₄.2)
  refine wpAny_newObj_type ?_ (by size_fits)
  have P : Keeps s₄ { s₄ with heap := s₄.heap.push { cls := .type "slice", data := .fields [l, u, t].toArray } } := kPush _
  obtain ⟨T, id, hl, hT, hg⟩ := o N A { s₄ with heap := s₄.heap.push { cls := .type "slice", data := .fields [l, u, t].toArray } } E v s₄.heap.objs.size l u t R (S4.keeps (kHeap P)).gh (S4.keeps (kHeap P)).al ((h₁.1.keeps (kHeap K)).keeps (kHeap P)) h₂.1 h₃.1 h₄.1 (Heap.IsSliceOf.new _ _ _ _)
  obtain ⟨ops, hs'⟩ := hs v (.ref s₄.heap.objs.size)
  exact tail_any hT hl (wpAny_mono hg (fun r s₅ h₅ => ⟨h₅.1, kTrans (kTrans h₁.2 K) (kTrans P h₅.2)⟩) fun _ _ x => x) hs'

/-! ## methods of bytes -/
def BMeth (name : Str) (id : String) : Prop := typeLookup (.type "bytes") name = pure (some (.builtin id)) ∧ typeOf (.builtin id) = pure (.type "method_descriptor")

theorem Ev.bmeth {o : Expr} {name : Str} {id : String} {apos pos : Pos} {e : Expr} {rest : List Expr} {pl : Sem Bool} {b : List UInt8} {ds : List D} {d : D} (x : Ev w k env ρ o (.bytes b)) (hm : BMeth name id) (ha : Evs w k env ρ (e :: rest) ds)
    (op : Op w k (fun vs => call (.builtin id) vs) (.bytes b :: ds) d)
    (hev : eval (.Call (.Attribute o name apos) (e :: rest) [] pos) env = (do
      let ov ← eval o env
      standAt apos.atName
      let (f, first) ← holding [ov] (getMethod ov name pl)
      callWith pos f first (backTo pos (starEach (e :: rest) env)) []) := by with_unfolding_all rfl)
    (he : starEach (e :: rest) env = (false, eval e env) :: starEach rest env := by with_unfolding_all rfl)
    (hplain : ∀ pos, (backTo pos (starEach rest env)).any (·.1) = false := by intro _; with_unfolding_all rfl) :
    Ev w k env ρ (.Call (.Attribute o name apos) (e :: rest) [] pos) d := fun h₀ N O A s E R S => by
  refine MethodCall_ (pl := pl) (wpAny_mono (x h₀ N O A s E R S) (fun v s₁ h₁ => ?_) fun _ _ x => x) hev
  obtain ⟨t, rfl⟩ := h₁.1.bytes_inv
  refine getMethod_value (T := "bytes") (typeIs_bytes _ _ _) (fun _ e => nomatch e) FB.plainAttrs_bytes.1.choose_spec.1 FB.plainAttrs_bytes.1.choose_spec.2 FB.plainAttrs_bytes.2 hm.1 hm.2 ?_
  have S1 := S.keeps (kHeap h₁.2)
  refine callWith_method1 (wpAny_mono (ha h₀ N O A s₁ E pos R S1) (fun vs s₂ h₂ => ?_) fun _ _ x => x) he (hplain pos)
  exact wpAny_mono (op N A s₂ E _ R (S1.keeps (kHeap h₂.2)).gh (S1.keeps (kHeap h₂.2)).al (.cons (h₁.1.keeps (kHeap h₂.2)) h₂.1)) (fun r s₃ h₃ => ⟨h₃.1, kTrans h₁.2 (kTrans h₂.2 h₃.2)⟩) fun _ _ x => x
end
end Mine
end

section
open PySem PySem.W PyProof.Rows PySem.Calls
set_option maxRecDepth 100000
namespace Mine

/-! ## entering a def -/
theorem bindL_off {κ : Str → Option NameKind} : ∀ (bs : List (Str × Value)) (m : Str → Option Value) (x : Str), x ∉ bs.map (·.1) → bindL κ bs m x = m x
  | [], m, x, _ => rfl
  | (n, v) :: r, m, x, h => by
    simp only [List.map_cons, List.mem_cons, not_or] at h
    rw [bindL, bindL_off r _ x h.2]
    by_cases hl : κ n = some .local
    · rw [if_pos hl]; simp [h.1]
    · rw [if_neg hl]
theorem bindL_get {κ : Str → Option NameKind} : ∀ (bs : List (Str × Value)) (m : Str → Option Value) (x : Str) (v : Value), (bs.map (·.1)).Nodup → (x, v) ∈ bs → κ x = some .local → bindL κ bs m x = some v
  | (n, u) :: r, m, x, v, nd, h, hl => by
    simp only [List.map_cons, List.nodup_cons] at nd
    rcases List.mem_cons.mp h with h | h
    · cases h
      rw [bindL, bindL_off r _ _ nd.1, if_pos hl]; simp
    · rw [bindL]; exact bindL_get r _ x v nd.2 h hl
theorem bindC_off {κ : Str → Option NameKind} : ∀ (bs : List (Str × Value)) (m : Str → Option Value) (x : Str), x ∉ bs.map (·.1) → bindC κ bs m x = m x
  | [], m, x, _ => rfl
  | (n, v) :: r, m, x, h => by
    simp only [List.map_cons, List.mem_cons, not_or] at h
    rw [bindC, bindC_off r _ x h.2]
    by_cases hl : κ n = some .local
    · rw [if_pos hl]
    · rw [if_neg hl]; simp [h.1]
theorem bindC_get {κ : Str → Option NameKind} : ∀ (bs : List (Str × Value)) (m : Str → Option Value) (x : Str) (v : Value), (bs.map (·.1)).Nodup → (x, v) ∈ bs → κ x = some .cell → bindC κ bs m x = some v
  | (n, u) :: r, m, x, v, nd, h, hl => by
    simp only [List.map_cons, List.nodup_cons] at nd
    rcases List.mem_cons.mp h with h | h
    · cases h
      rw [bindC, bindC_off r _ _ nd.1, if_neg (by rw [hl]; decide)]; simp
    · rw [bindC]; exact bindC_get r _ x v nd.2 h hl

theorem zip_get {N : Addr → Prop} {h : Heap} : ∀ {ps : List Str} {ds : List D} {vs : List Value} {x : Str} {d : D}, Reps N h ds vs → (x, d) ∈ ps.zip ds → ∃ v, (x, v) ∈ ps.zip vs ∧ Rep N h d v
  | [], _, _, _, _, _, e => by simp at e
  | p :: ps, [], _, _, _, _, e => by simp at e
  | p :: ps, d :: ds, vs, x, d', r, e => by
    simp only [Reps] at r
    obtain ⟨v, r', rfl, r1, r2⟩ := r
    simp only [List.zip_cons_cons, List.mem_cons, Prod.mk.injEq] at e
    rcases e with ⟨rfl, rfl⟩ | e
    · exact ⟨v, by simp, r1⟩
    · obtain ⟨v', h1, h2⟩ := zip_get r2 e
      exact ⟨v', by simp [h1], h2⟩

def fnEnv (f : FnRec) (L a : Addr) (cd : Value) : Env := envOfC f.name f.scope L a cd

/-- each name of the frame has its place -/
def NameOk (sc : Scope) (x : Str) : Bool := (sc.names.lookup x == some .local) || (sc.names.lookup x == some .cell && ((cellsFrom 0 sc.names []).lookup x).isSome)

theorem cellsFrom_some : ∀ (names : List (Str × NameKind)) (a b : Nat) (x : Str) (acc acc' : List (Str × Addr)), acc.map (·.1) = acc'.map (·.1) → ((cellsFrom a names acc).lookup x).isSome = ((cellsFrom b names acc').lookup x).isSome := by
  intro names a b x acc acc' h
  have e := (cellsFrom_names names a b acc acc' h)
  generalize cellsFrom a names acc = l1 at e ⊢
  generalize cellsFrom b names acc' = l2 at e ⊢
  induction l1 generalizing l2 with
  | nil => cases l2 with
    | nil => rfl
    | cons y r => simp at e
  | cons y r ih =>
    cases l2 with
    | nil => simp at e
    | cons z r2 =>
      simp only [List.map_cons, List.cons.injEq] at e
      obtain ⟨n, c⟩ := y
      obtain ⟨n2, c2⟩ := z
      obtain ⟨rfl, e⟩ := e
      simp only [List.lookup_cons]
      cases x == n with
      | true => rfl
      | false => exact ih r2 e

theorem NameOk.slot {f : FnRec} {L a cd x} (h : NameOk f.scope x = true) : Slot (fnEnv f L a cd) x := by
  unfold NameOk at h
  simp only [Bool.or_eq_true, Bool.and_eq_true, beq_iff_eq] at h
  rcases h with h | ⟨h1, h2⟩
  · exact .inl h
  · refine .inr ⟨.inl h1, ?_⟩
    rw [cellsFrom_some _ 0 (L + 1) x [] [] rfl] at h2
    exact Option.isSome_iff_exists.mp h2

theorem Fn.mk {w : World} {k : Nat} {f : FnRec} {ds : List D} {d : D} (ps ls : List Str)
    (hb : ∀ pm cd doc vs, vs.length = ds.length → bindArgs (docDef f.name f.params f.body f.scope pm cd doc) ⟨vs, []⟩ = pure (ps.zip vs))
    (hlen : ps.length = ds.length)
    (hok : (ps ++ ls).all (fun x => NameOk f.scope x && !(x == ("__debug__" : Str)) && !(x == ("__classdict__" : Str))) = true)
    (hnd : (ps ++ ls).Nodup)
    (body : ∀ L a cd, Exs w (fun _ => False) k (fnEnv f L a cd) (ps.zip ds ++ ls.map fun x => (x, .undef)) f.body (.ret d))
    (hco : f.scope.isCoroutine = false := by rfl) (hgen : f.scope.isGenerator = false := by rfl) (hk : f.scope.kind = .function := by rfl) : Fn w (k + 1) f ds d := by
  intro N A s E a vs mg R G al Gn I r
  obtain ⟨o, pm, c, doc, h1, h2, h3, h4⟩ := I
  have hok' : ∀ x ∈ ps ++ ls, NameOk f.scope x = true ∧ (x == ("__debug__" : Str)) = false ∧ (x == ("__classdict__" : Str)) = false := fun x hx => by
    have := List.all_eq_true.mp hok x hx
    simp only [Bool.and_eq_true, Bool.not_eq_true'] at this
    exact ⟨this.1.1, this.1.2, this.2⟩
  have hvl : vs.length = ds.length := r.length
  have hnd1 : ps.Nodup := (List.nodup_append.mp hnd).1
  have hkeys : ∀ {α : Type} (xs : List α), ps.length = xs.length → (ps.zip xs).map (·.1) = ps := fun xs h => by
    rw [List.map_fst_zip]; omega
  obtain ⟨mg', mb', G'⟩ := G
  refine wpAny_call (call_cells_ret R.depth h2 h3 G'.nolimit h4 (hb pm c doc vs hvl) (fun x hx => ?_) (fun h₁ tk F X => ?_) hco hgen hk)
  · have hx' : x.1 ∈ ps := by
      have := List.mem_map_of_mem (f := (·.1)) hx
      rwa [hkeys vs (by omega)] at this
    have := (hok' x.1 (List.mem_append_left _ hx')).1
    unfold NameOk at this
    simp only [Bool.or_eq_true, Bool.and_eq_true, beq_iff_eq] at this
    rcases this with h | ⟨h5, h6⟩
    · exact .inl h
    · exact .inr ⟨h5, by rw [cellsFrom_some _ _ 0 x.1 [] [] rfl]; exact h6⟩
  · have S : St s.heap N (fun _ => False) (fnEnv f s.heap.objs.size a c) h₁ (ps.zip ds ++ ls.map fun x => (x, .undef)) := by
      refine ⟨hk, rfl, rfl, ⟨mg', mb', G'⟩, fun b o e => ⟨F.keep b o e, ?_⟩, al.keeps F.keep, fun _ h => h.elim, ⟨_, F.ns⟩, fun x c hc => ⟨_, X.cell x c hc⟩, fun x y c hx hy => ?_, ?_, fun e he => ?_, fun e he => ?_⟩
      · rintro (h | h)
        · rcases h with h | ⟨x, h⟩
          · subst h; exact Nat.lt_irrefl _ (Heap.lt_size e)
          · exact Nat.lt_asymm (Heap.lt_size e) (X.above x b (mem_of_lookup h))
        · exact h
      · exact name_of_addr X.apart (mem_of_lookup hx) (mem_of_lookup hy)
      · rw [List.map_append, hkeys ds hlen, List.map_map]
        have : ((fun x : Str × D => x.1) ∘ fun x => (x, D.undef)) = id := rfl
        rw [this, List.map_id]; exact hnd
      · have : e.1 ∈ ps ++ ls := by
          rcases List.mem_append.mp he with h | h
          · exact List.mem_append_left _ (by have := List.mem_map_of_mem (f := (·.1)) h; rwa [hkeys ds hlen] at this)
          · obtain ⟨y, hy, rfl⟩ := List.mem_map.mp h; exact List.mem_append_right _ hy
        exact (hok' _ this).2
      · rcases List.mem_append.mp he with h | h
        · obtain ⟨x, d'⟩ := e
          have hx' : x ∈ ps := by have := List.mem_map_of_mem (f := (·.1)) h; rwa [hkeys ds hlen] at this
          have ok := (hok' x (List.mem_append_left _ hx')).1
          refine ⟨NameOk.slot ok, ?_⟩
          obtain ⟨v, hv, rv⟩ := zip_get r h
          have rv' : Rep N h₁ d' v := rv.keeps F.keep
          have nd' : ((ps.zip vs).map (·.1)).Nodup := by rw [hkeys vs (by omega)]; exact hnd1
          refine .rep (v := v) ?_ rv'
          have ok2 := NameOk.slot (f := f) (L := s.heap.objs.size) (a := a) (cd := c) ok
          rcases ok2 with hl | ⟨hc, cc, hcc⟩
          · exact .inl ⟨hl, _, F.ns, bindL_get _ _ x v nd' hv hl⟩
          · refine .inr ⟨hc, cc, hcc, ?_⟩
            have := X.cell x cc hcc
            rcases hc with hc | hc
            · have e2 : bindC (envOfC f.name f.scope s.heap.objs.size a c).kindOf (ps.zip vs) (fun _ => none) x = some v := bindC_get _ _ x v nd' hv hc
              rw [e2] at this; exact this
            · exfalso
              unfold NameOk at ok
              simp only [Bool.or_eq_true, Bool.and_eq_true, beq_iff_eq] at ok
              have hc' : f.scope.names.lookup x = some .free := hc
              rcases ok with ok | ⟨ok, _⟩ <;> rw [hc'] at ok <;> cases ok
        · obtain ⟨y, hy, rfl⟩ := List.mem_map.mp h
          exact ⟨NameOk.slot (hok' y (List.mem_append_right _ hy)).1, .undef⟩
    refine wpAny_mono (body s.heap.objs.size a c s.heap N (A.deeper _) _ (fun _ _ => False) R.deeper S) (fun fl s' h => ?_) fun _ _ x => x
    obtain ⟨⟨v, rfl, rv⟩, M⟩ := h
    refine ⟨rv, ?_⟩
    obtain ⟨h', tk', rfl, q⟩ := M
    refine ⟨h', tk', rfl, fun b o e => q b o ?_ (F.keep b o e)⟩
    rintro (h | h)
    · rcases h with h | ⟨x, h⟩
      · subst h; exact Nat.lt_irrefl _ (Heap.lt_size e)
      · exact Nat.lt_asymm (Heap.lt_size e) (X.above x b (mem_of_lookup h))
    · exact h

end Mine
end

section
open PySem PySem.W PyProof.Rows PySem.Calls
set_option maxRecDepth 100000
namespace Mine

/-! ## iterators -/
def ItOk (w : World) (N : Addr → Prop) (A : Around) (s s' : Shared) (it : Value) (ds : List D) : Prop :=
  ∃ I fp wr P T, it = .ref I ∧ Walks PG w A I fp wr ds.length P T ∧ T 0 s'.heap ∧ Keeps s s' ∧ (∀ b ∈ fp, b < s'.heap.objs.size) ∧
    (∀ b ∈ fp, s.heap.get? b = none ∨ (¬ N b ∧ ∃ o xs n, s.heap.get? b = some o ∧ o.data = .seq xs n)) ∧ (∀ b ∈ wr, s.heap.get? b = none) ∧
    (∀ i h b o xs n, T i h → b ∈ wr → h.get? b = some o → o.data ≠ .seq xs n) ∧ (∀ i u d, P i u → ds[i]? = some d → Rep N s'.heap d u) ∧ ds.length ≤ sizeLine
def Its (w : World) (k : Nat) (dv : D) (ds : List D) : Prop :=
  ∀ (N : Addr → Prop) (A : Around) (s : Shared) (E : Value → Shared → Prop) (v : Value), Room k A → GH s.heap → Al N s.heap → Rep N s.heap dv v →
    wpAny (model PG w) A (pyIter v) (fun it s' => ItOk w N A s s' it ds) E s

theorem its_list {w : World} {k : Nat} {ds : List D} (hsz : ds.length ≤ sizeLine) : Its w k (.list ds) ds := fun N A s E v R G al r => by
  obtain ⟨a, vs, rfl, na, l, rs⟩ := r.list_inv
  have hv : vs.length = ds.length := rs.length
  obtain ⟨o, ho, hc, n, hd⟩ := id l
  have hlt : a < s.heap.objs.size := Heap.lt_size ho
  refine wpAny_pyIter_list l ?_
  have W := Walks.list (prog := PG) (w := w) R.2.2 s.heap.objs.size a (Nat.ne_of_lt hlt) vs.toArray
  rw [show vs.toArray.size = ds.length by simpa using hv] at W
  refine ⟨s.heap.objs.size, [s.heap.objs.size, a], [s.heap.objs.size], _, _, rfl, W, ⟨⟨_, Heap.get?_push_size _ rfl, rfl, rfl⟩, l.push _⟩, kPush _, ?_, ?_, ?_, ?_, ?_, hsz⟩
  · intro b hb
    show b < (s.heap.push _).objs.size
    rw [Heap.size_push]
    simp only [List.mem_cons, List.mem_nil_iff, or_false] at hb
    rcases hb with rfl | rfl
    · exact Nat.lt_succ_self _
    · exact Nat.lt_succ_of_lt hlt
  · intro b hb
    simp only [List.mem_cons, List.mem_nil_iff, or_false] at hb
    rcases hb with rfl | rfl
    · left
      cases e : s.heap.get? s.heap.objs.size with
      | none => rfl
      | some o => exact absurd (Heap.lt_size e) (Nat.lt_irrefl _)
    · exact .inr ⟨na, o, _, n, ho, hd⟩
  · intro b hb
    simp only [List.mem_cons, List.mem_nil_iff, or_false] at hb
    subst hb
    cases e : s.heap.get? s.heap.objs.size with
    | none => rfl
    | some o => exact absurd (Heap.lt_size e) (Nat.lt_irrefl _)
  · rintro i h b o xs n ⟨⟨o', e', _, d'⟩, _⟩ hb e
    simp only [List.mem_cons, List.mem_nil_iff, or_false] at hb
    subst hb
    rw [e] at e'; cases e'; rw [d']; exact fun h => nomatch h
  · intro i u d hP hd
    have hu : vs[i]? = some u := by simpa using hP
    obtain ⟨v', e', r'⟩ := rs.get hd
    rw [hu] at e'; cases e'
    exact r'.keeps fun _ _ e => Heap.get?_push_of_some _ e

inductive ForD (w : World) (O : Addr → Prop) (k : Nat) (env : Env) (x : Str) (body : List Stmt) : List D → Ctx → Out → Prop
  | done {ρ : Ctx} : ForD w O k env x body [] ρ (.next ρ)
  | step {d : D} {ρ ρ₁ ρ' : Ctx} {rest : List D} {o : Out} : Upd ρ x d ρ₁ → Exs w O k env ρ₁ body (.next ρ') → ForD w O k env x body rest ρ' o → ForD w O k env x body (d :: rest) ρ o
  | cont {d : D} {ρ ρ₁ ρ' : Ctx} {rest : List D} {o : Out} : Upd ρ x d ρ₁ → Exs w O k env ρ₁ body (.cont ρ') → ForD w O k env x body rest ρ' o → ForD w O k env x body (d :: rest) ρ o
  | brk {d : D} {ρ ρ₁ ρ' : Ctx} {rest : List D} : Upd ρ x d ρ₁ → Exs w O k env ρ₁ body (.brk ρ') → ForD w O k env x body (d :: rest) ρ (.next ρ')
  | ret {d r : D} {ρ ρ₁ : Ctx} {rest : List D} : Upd ρ x d ρ₁ → Exs w O k env ρ₁ body (.ret r) → ForD w O k env x body (d :: rest) ρ (.ret r)


section
variable {w : World} {O : Addr → Prop} {k : Nat} {env : Env} {ρ : Ctx} {h₀ : Heap} {N : Addr → Prop}

theorem St.iter {hs h h' : Heap} {ρ₀ : Ctx} {wr : List Addr} (S₀ : St h₀ N O env hs ρ₀) (S : St h₀ N O env h ρ) (fresh : ∀ b ∈ wr, hs.get? b = none)
    (noseq : ∀ b ∈ wr, ∀ o xs n, h.get? b = some o → o.data ≠ .seq xs n) (hk : ∀ b o, b ∉ wr → h.get? b = some o → h'.get? b = some o) : St h₀ N O env h' ρ := by
  have sk : ∀ M, SeqKeep M h h' := fun M b o xs n _ e d => hk b o (fun hb => noseq b hb o xs n e d) e
  have hL : env.locals ∉ wr := fun hb => by
    obtain ⟨m, o, _, _, e, _⟩ := S₀.ns
    rw [fresh _ hb] at e; cases e
  have hC : ∀ x c, env.cells.lookup x = some c → c ∉ wr := fun x c hc hb => by
    obtain ⟨ov, o, e, _⟩ := S₀.cells x c hc
    rw [fresh _ hb] at e; cases e
  have bk : ∀ x v, Bnd env h x v → Bnd env h' x v := fun x v B => by
    rcases B with ⟨a, m, n, e⟩ | ⟨a, c, l, o, e, d⟩
    · exact .inl ⟨a, m, n.at' fun o e => hk _ o hL e, e⟩
    · exact .inr ⟨a, c, l, o, hk _ o (hC x c l) e, d⟩
  refine { S with base := fun b o e => ⟨hk b o (fun hb => ?_) (S.base b o e).1, (S.base b o e).2⟩, al := fun b hb => ?_, ns := ?_, cells := fun x c hc => ?_, ents := fun e he => ?_ }
  · have := (S₀.base b o e).1; rw [fresh _ hb] at this; cases this
  · obtain ⟨o, e⟩ := S.al b hb
    refine ⟨o, hk b o (fun hw => ?_) e⟩
    obtain ⟨o', e'⟩ := S₀.al b hb
    rw [fresh _ hw] at e'; cases e'
  · obtain ⟨m, n⟩ := S.ns; exact ⟨m, n.at' fun o e => hk _ o hL e⟩
  · obtain ⟨ov, o, e, d⟩ := S.cells x c hc; exact ⟨ov, o, hk _ o (hC x c hc) e, d⟩
  · obtain ⟨a, b⟩ := S.ents e he
    refine ⟨a, ?_⟩
    revert b
    generalize e.2 = d2
    intro b
    cases b with
    | undef => exact .undef
    | own B l r2 => exact .own (bk _ _ B) (let ⟨o, e, c, n, d⟩ := l; ⟨o, sk (fun _ => False) _ _ _ _ (fun f => f) e d.1, c, n, d⟩) (r2.stay (sk N))
    | rep B r2 => exact .rep (bk _ _ B) (r2.stay (sk N))

/-- an expression that is walked over -/
def EvIt (w : World) (k : Nat) (env : Env) (ρ : Ctx) (iter : Expr) (ds : List D) : Prop :=
  ∀ (h₀ : Heap) (N O : Addr → Prop) (A : Around) (s : Shared) (E : Value → Shared → Prop), Room k A → St h₀ N O env s.heap ρ →
    wpAny (model PG w) A (eval iter env) (fun v s₁ => wpAny (model PG w) A (pyIter v) (fun it s₂ => ItOk w N A s s₂ it ds) E s₁) E s

theorem EvIt.of {env : Env} {ρ : Ctx} {w : World} {k : Nat} {iter : Expr} {dv : D} {ds : List D} (ev : Ev w k env ρ iter dv) (it : Its w k dv ds) : EvIt w k env ρ iter ds := fun h₀ N O A s E R S => by
  refine wpAny_mono (ev h₀ N O A s E R S) (fun v s₁ h₁ => ?_) fun _ _ x => x
  have S₁ := S.keeps (kHeap h₁.2)
  refine wpAny_mono (it N A s₁ E v R S₁.gh S₁.al h₁.1) (fun itv s₂ h₂ => ?_) fun _ _ x => x
  obtain ⟨I, fp, wr, P, T, rfl, W, T0, K, hlt, hfp, hwr, hns, hP, hsz⟩ := h₂
  have back : ∀ b, s₁.heap.get? b = none → s.heap.get? b = none := fun b hb => by
    cases e : s.heap.get? b with
    | none => rfl
    | some o => rw [kHeap h₁.2 b o e] at hb; cases hb
  refine ⟨I, fp, wr, P, T, rfl, W, T0, kTrans h₁.2 K, hlt, fun b hb => ?_, fun b hb => back b (hwr b hb), hns, hP, hsz⟩
  rcases hfp b hb with hf | ⟨nb, o', xs, n, e, d⟩
  · exact .inl (back b hf)
  · cases e2 : s.heap.get? b with
    | none => exact .inl rfl
    | some o => 
      have := kHeap h₁.2 b o e2
      rw [e] at this; cases this
      exact .inr ⟨nb, o', xs, n, rfl, d⟩

theorem Ex.forG {x px iter body pos ds o} (ev : EvIt w k env ρ iter ds) (D : ForD w O k env x body ds ρ o)
    (hs : ∀ x, foldedSetIterable iter env x = pure x := by intro _; with_unfolding_all rfl) :
    Ex w O k env ρ (.For (.Name x px) iter body [] pos) o := fun h₀ N A s E R S => by
  refine wpAny_For (wpAny_mono (ev h₀ N O A s _ R S) (fun v s₁ h₁ => ?_) fun _ _ x => x) hs
  have S₁ := S
  refine wpAny_mono h₁ (fun itv s₂ h₂ => ?_) fun _ _ x => x
  obtain ⟨I, fp, wr, P, T, rfl, W, T0, K, hlt, hfp, hwr, hns, hP, hsz⟩ := h₂
  have S₂ := S₁.keeps (kHeap K)
  have wrfp : ∀ b ∈ wr, b ∈ fp := W.sub
  have fpW : ∀ b ∈ fp, ¬ WO O env b := fun b hb hw => by
    rcases hfp b hb with hf | ⟨nb, o', xs, n, e, d⟩
    · rcases hw with hw | hw
      · rcases hw with rfl | ⟨y, hy⟩
        · obtain ⟨m, o', _, _, e, _⟩ := S₁.ns; rw [hf] at e; cases e
        · obtain ⟨ov, o', e, _⟩ := S₁.cells y b hy; rw [hf] at e; cases e
      · obtain ⟨o', e⟩ := S₁.al b (S₁.sub b hw); rw [hf] at e; cases e
    · rcases hw with hw | hw
      · exact S₁.wr_noseq hw e d
      · exact nb (S₁.sub b hw)
  refine codeAny_forLoop (fun n s' => ∃ i rest ρ', n = rest.length ∧ ds.drop i = rest ∧ i + rest.length = ds.length ∧ T i s'.heap ∧ St h₀ N O env s'.heap ρ' ∧ ForD w O k env x body rest ρ' o ∧ Moves (fun b => WO O env b ∨ b ∈ wr) s₂ s')
    ?_ ds.length ⟨0, ds, ρ, rfl, rfl, by omega, T0, S₂, D, .refl _ _⟩
  rintro n s' ⟨i, rest, ρ', rfl, hdrop, hlen, Ti, S', D', M⟩
  have fin : ∀ s'' , Moves (fun b => WO O env b ∨ b ∈ wr) s₂ s'' → Moves (WO O env) s s'' := fun s'' M' => by
    obtain ⟨h'', tk'', e'', q''⟩ := M'
    obtain ⟨h1, t1, e1, q1⟩ := id K
    refine ⟨h'', tk'', by rw [e'', e1], fun b o nb e => q'' b o ?_ (kHeap K b o e)⟩
    rintro (h | h)
    · exact nb h
    · rw [hwr b h] at e; cases e
  have stepM : ∀ (h' : Heap) (tk : Nat), (∀ b o, b ∉ wr → s'.heap.get? b = some o → h'.get? b = some o) → Moves (fun b => WO O env b ∨ b ∈ wr) s₂ { s' with heap := h', toks := tk } := fun h' tk hk => M.trans ⟨h', tk, rfl, fun b o nb e => hk b o (fun h => nb (.inr h)) e⟩
  have nsq : ∀ b ∈ wr, ∀ o xs n, s'.heap.get? b = some o → o.data ≠ .seq xs n := fun b hb o xs n e => hns i s'.heap b o xs n Ti hb e
  cases rest with
  | nil =>
    have hi : i = ds.length := by simpa using hlen
    subst hi
    cases D'
    refine W.done s' _ _ Ti fun h' tk hk => wpAny_execs_nil ?_
    exact ⟨⟨rfl, S₁.iter S' hwr nsq hk⟩, fin _ (stepM h' tk hk)⟩
  | cons d rest =>
    have hi : i < ds.length := by simp only [List.length_cons] at hlen; omega
    have hdi : ds[i]? = some d := by
      have := congrArg List.head? hdrop
      rw [List.head?_drop] at this; simpa using this
    have hdrop' : ds.drop (i + 1) = rest := by
      have := congrArg List.tail hdrop
      rw [List.tail_drop] at this; simpa using this
    refine W.item i s' _ _ hi Ti fun v h' tk hPv Ti' hk => ?_
    have Sh : St h₀ N O env h' ρ' := S₁.iter S' hwr nsq hk
    have Mh := stepM h' tk hk
    have rv : Rep N h' d v := by
      have rv2 := hP i v d hPv hdi
      refine Rep.stay (h := s₂.heap) (fun b o xs n nb e dd => ?_) d v rv2
      have nwr : b ∉ wr := fun h => hns 0 s₂.heap b o xs n T0 h e dd
      refine hk b o nwr (M.heap b o ?_ e)
      rintro ((h | h) | h)
      · exact S₂.wr_noseq h e dd
      · exact nb (S₂.sub b h)
      · exact nwr h
    have go : ∀ {ρ₁ : Ctx} {o' : Out} (u : Upd ρ' x d ρ₁) (X : Exs w O k env ρ₁ body o') (Q : Flow → Shared → Prop) (E' : Value → Shared → Prop),
        (∀ f s'', o'.Is h₀ N O env f s'' → Moves (fun b => WO O env b ∨ b ∈ wr) s₂ s'' → T (i + 1) s''.heap → Q f s'') →
        wpAny (model PG w) A (PySem.assign (.Name x px) env v) (fun _ s₂ => wpAny (model PG w) A (execs body env) Q E' s₂) E' { s' with heap := h', toks := tk } := fun u X Q E' hQ => by
      refine wpAny_assign_Name (wpAny_mono (store (s := { s' with heap := h', toks := tk }) Sh u rv) (fun _ s₃ h₃ => ?_) fun _ _ x => x)
      refine wpAny_mono (X h₀ N A s₃ _ R h₃.1) (fun f s₄ h₄ => hQ f s₄ h₄.1 ?_ ?_) fun _ _ x => x
      · obtain ⟨_, _, e1, q1⟩ := h₃.2.trans h₄.2
        exact Mh.trans ⟨_, _, e1, fun b o nb e => q1 b o (fun h => nb (.inl h)) e⟩
      · exact W.frame _ _ _ Ti' fun b hb o e => (h₃.2.trans h₄.2).heap b o (fpW b hb) e
    cases D' with
    | step u X D'' =>
      refine go u X _ _ fun f s'' hI M' T' => ?_
      obtain ⟨rfl, S''⟩ := hI
      exact ⟨rest.length, by simp, i + 1, rest, _, rfl, hdrop', by simp only [List.length_cons] at hlen; omega, T', S'', D'', M'⟩
    | cont u X D'' =>
      refine go u X _ _ fun f s'' hI M' T' => ?_
      obtain ⟨rfl, S''⟩ := hI
      exact ⟨rest.length, by simp, i + 1, rest, _, rfl, hdrop', by simp only [List.length_cons] at hlen; omega, T', S'', D'', M'⟩
    | brk u X =>
      refine go u X _ _ fun f s'' hI M' T' => ?_
      obtain ⟨rfl, S''⟩ := hI
      exact ⟨⟨rfl, S''⟩, fin _ M'⟩
    | ret u X =>
      refine go u X _ _ fun f s'' hI M' T' => ?_
      obtain ⟨v', rfl, r'⟩ := hI
      exact ⟨⟨v', rfl, r'⟩, fin _ M'⟩

theorem Ex.for {x px iter body pos dv ds o} (ev : Ev w k env ρ iter dv) (it : Its w k dv ds) (D : ForD w O k env x body ds ρ o)
    (hs : ∀ x, foldedSetIterable iter env x = pure x := by intro _; with_unfolding_all rfl) :
    Ex w O k env ρ (.For (.Name x px) iter body [] pos) o := Ex.forG (.of ev it) D hs
end

/-! ## while -/
inductive WhileD (w : World) (O : Addr → Prop) (k : Nat) (env : Env) (test : Expr) (body : List Stmt) : Nat → Ctx → Out → Prop
  | done {n : Nat} {ρ : Ctx} : Tst w k env ρ test false → WhileD w O k env test body n ρ (.next ρ)
  | step {n : Nat} {ρ ρ' : Ctx} {o : Out} : Tst w k env ρ test true → Exs w O k env ρ body (.next ρ') → WhileD w O k env test body n ρ' o → WhileD w O k env test body (n + 1) ρ o
  | brk {n : Nat} {ρ ρ' : Ctx} : Tst w k env ρ test true → Exs w O k env ρ body (.brk ρ') → WhileD w O k env test body n ρ (.next ρ')
  | ret {n : Nat} {ρ : Ctx} {r : D} : Tst w k env ρ test true → Exs w O k env ρ body (.ret r) → WhileD w O k env test body n ρ (.ret r)

theorem Ex.while {w O k env test body n ρ o pos} (D : WhileD w O k env test body n ρ o) : Ex w O k env ρ (.While test body [] pos) o := fun h₀ N A s E R S => by
  refine wpAny_While ?_
  refine codeAny_whileLoop (fun m s' => ∃ ρ', St h₀ N O env s'.heap ρ' ∧ WhileD w O k env test body m ρ' o ∧ Moves (WO O env) s s') ?_ n ⟨ρ, S, D, .refl _ _⟩
  rintro m s' ⟨ρ', S', D', M⟩
  cases D' with
  | done t =>
    refine wpAny_mono (t h₀ N O A s' _ R S') (fun b s₁ h => ?_) fun _ _ x => x
    obtain ⟨rfl, K⟩ := h
    exact wpAny_execs_nil ⟨⟨rfl, S'.keeps (kHeap K)⟩, M.trans (kMoves K)⟩
  | step t x D'' =>
    refine wpAny_mono (t h₀ N O A s' _ R S') (fun b s₁ h => ?_) fun _ _ x => x
    obtain ⟨rfl, K⟩ := h
    refine wpAny_mono (x h₀ N A s₁ _ R (S'.keeps (kHeap K))) (fun f s₂ h₂ => ?_) fun _ _ x => x
    obtain ⟨⟨rfl, S''⟩, M'⟩ := h₂
    exact ⟨_, Nat.lt_succ_self _, _, S'', D'', M.trans ((kMoves K).trans M')⟩
  | brk t x =>
    refine wpAny_mono (t h₀ N O A s' _ R S') (fun b s₁ h => ?_) fun _ _ x => x
    obtain ⟨rfl, K⟩ := h
    refine wpAny_mono (x h₀ N A s₁ _ R (S'.keeps (kHeap K))) (fun f s₂ h₂ => ?_) fun _ _ x => x
    obtain ⟨⟨rfl, S''⟩, M'⟩ := h₂
    exact ⟨⟨rfl, S''⟩, M.trans ((kMoves K).trans M')⟩
  | ret t x =>
    refine wpAny_mono (t h₀ N O A s' _ R S') (fun b s₁ h => ?_) fun _ _ x => x
    obtain ⟨rfl, K⟩ := h
    refine wpAny_mono (x h₀ N A s₁ _ R (S'.keeps (kHeap K))) (fun f s₂ h₂ => ?_) fun _ _ x => x
    obtain ⟨⟨v', rfl, r'⟩, M'⟩ := h₂
    exact ⟨⟨v', rfl, r'⟩, M.trans ((kMoves K).trans M')⟩

end Mine
end

section
open PySem PySem.W PyProof.Rows PySem.Calls
set_option maxRecDepth 100000
namespace Mine

section
variable {w : World} {O : Addr → Prop} {k : Nat} {env : Env} {ρ : Ctx}

/-! ## augmented assignment, unpacking -/
abbrev Inp (w : World) (k : Nat) (op : Operator) (a b d : D) : Prop := Op w k (two (inplaceOp op)) [a, b] d

theorem Ex.aug {x pos' op e pos a b d ρ'} (l : At ρ x a) (y : Ev w k env ρ e b) (o : Inp w k op a b d) (u : Upd ρ x d ρ') (hd : a.plain = true) :
    Ex w O k env ρ (.AugAssign (.Name x pos') op e pos) (.next ρ') := fun h₀ N A s E R S => by
  refine wpAny_AugAssign_Name (wpAny_mono (load S l hd) (fun v s₁ h₁ => ?_) fun _ _ x => x)
  have S₁ := S.keeps (kHeap h₁.2)
  refine wpAny_mono (y h₀ N O A s₁ E R S₁) (fun v₂ s₂ h₂ => ?_) fun _ _ x => x
  have S₂ := S₁.keeps (kHeap h₂.2)
  refine wpAny_mono (o N A s₂ E [v, v₂] R S₂.gh S₂.al (.two (h₁.1.keeps (kHeap h₂.2)) h₂.1)) (fun v₃ s₃ h₃ => ?_) fun _ _ x => x
  refine wpAny_mono (store (S₂.keeps (kHeap h₃.2)) u h₃.1) (fun _ s₄ h₄ => ?_) fun _ _ x => x
  exact ⟨⟨rfl, h₄.1⟩, (kMoves (kTrans h₁.2 (kTrans h₂.2 h₃.2))).trans h₄.2⟩

theorem bindN {h₀ : Heap} {N : Addr → Prop} {A : Around} {s : Shared} {E : Value → Shared → Prop} {x d ρ' v p} (S : St h₀ N O env s.heap ρ) (u : Upd ρ x d ρ') (r : Rep N s.heap d v) :
    wpAny (model PG w) A (assign (.Name x p) env v) (fun _ s' => (St h₀ N O env s'.heap ρ' ∧ Moves (WO O env) s s') ∧ ∀ M, SeqKeep M s.heap s'.heap) E s :=
  wpAny_assign_Name (store3 S u r)
theorem bindB {h₀ : Heap} {N : Addr → Prop} {A : Around} {s : Shared} {E : Value → Shared → Prop} {x d ρ' v} (S : St h₀ N O env s.heap ρ) (u : Upd ρ x d ρ') (r : Rep N s.heap d v) :
    wpAny (model PG w) A (bindName env x v) (fun _ s' => (St h₀ N O env s'.heap ρ' ∧ Moves (WO O env) s s') ∧ ∀ M, SeqKeep M s.heap s'.heap) E s :=
  wpAny_bindName (store3 S u r)

theorem extBut_new {s : Shared} {h' : Heap} (he : Heap.ExtBut s.heap.objs.size s.heap h') : ∀ b o, s.heap.get? b = some o → h'.get? b = some o := fun b o e => he b o (Nat.ne_of_lt (Heap.lt_size e)) e

theorem Ex.unpack2 {x px y py kk tp e pos a b ρ₁ ρ₂} (ev : Ev w k env ρ e (.tuple [a, b])) (u : Upd ρ x a ρ₁) (u' : Upd ρ₁ y b ρ₂)
    (hs : swapsWithSole [.Tuple [.Name x px, .Name y py] kk tp] e pos.line env = pure false := by with_unfolding_all rfl)
    (hw : swappedStores [.Tuple [.Name x px, .Name y py] kk tp] e env = pure none := by with_unfolding_all rfl) :
    Ex w O k env ρ (.Assign [.Tuple [.Name x px, .Name y py] kk tp] e pos) (.next ρ₂) := fun h₀ N A s E R S => by
  refine Assign_Tuple (wpAny_mono (ev h₀ N O A s E R S) (fun v s₁ h₁ => ?_) fun _ _ x => x) hs hw
  obtain ⟨t, vs, rfl, na, ht, rs⟩ := h₁.1.tuple_inv
  obtain ⟨v₁, v₂, rfl, r₁, r₂⟩ := rs.two_inv
  refine wpAny_assign_Tuple R.2.2 ht rfl rfl fun h' he => ?_
  have K : Keeps s₁ { s₁ with heap := h' } := kMk (extBut_new he)
  have S₁ := (S.keeps (kHeap h₁.2)).keeps (kHeap K)
  show wpAny _ A (do holding [v₂] (PySem.assign (.Name x px) env v₁); assignInOrder [PySem.assign (.Name y py) env] [v₂]) _ E _
  refine wpAny_bind (wpAny_holding (wpAny_mono (bindN (s := { s₁ with heap := h' }) S₁ u (r₁.keeps (kHeap K))) (fun _ s₂ h₂ => ?_) fun _ _ x => x))
  show wpAny _ A (do holding [] (PySem.assign (.Name y py) env v₂); pure ()) _ E _
  refine wpAny_bind (wpAny_holding (wpAny_mono (bindN h₂.1.1 u' ((r₂.keeps (kHeap K)).stay (h₂.2 N))) (fun _ s₃ h₃ => wpAny_pure ?_) fun _ _ x => x))
  exact ⟨⟨rfl, h₃.1.1⟩, (kMoves (kTrans h₁.2 K)).trans (h₂.1.2.trans h₃.1.2)⟩

theorem Ex.unpack3 {x px y py z pz kk tp e pos a b c ρ₁ ρ₂ ρ₃} (ev : Ev w k env ρ e (.tuple [a, b, c])) (u : Upd ρ x a ρ₁) (u' : Upd ρ₁ y b ρ₂) (u'' : Upd ρ₂ z c ρ₃)
    (hs : swapsWithSole [.Tuple [.Name x px, .Name y py, .Name z pz] kk tp] e pos.line env = pure false := by with_unfolding_all rfl)
    (hw : swappedStores [.Tuple [.Name x px, .Name y py, .Name z pz] kk tp] e env = pure none := by with_unfolding_all rfl) :
    Ex w O k env ρ (.Assign [.Tuple [.Name x px, .Name y py, .Name z pz] kk tp] e pos) (.next ρ₃) := fun h₀ N A s E R S => by
  refine Assign_Tuple (wpAny_mono (ev h₀ N O A s E R S) (fun v s₁ h₁ => ?_) fun _ _ x => x) hs hw
  obtain ⟨t, vs, rfl, na, ht, rs⟩ := h₁.1.tuple_inv
  obtain ⟨v₁, v₂, v₃, rfl, r₁, r₂, r₃⟩ := rs.three_inv
  refine wpAny_assign_Tuple R.2.2 ht rfl rfl fun h' he => ?_
  have K : Keeps s₁ { s₁ with heap := h' } := kMk (extBut_new he)
  have S₁ := (S.keeps (kHeap h₁.2)).keeps (kHeap K)
  show wpAny _ A (do holding [v₂, v₃] (PySem.assign (.Name x px) env v₁); assignInOrder [PySem.assign (.Name y py) env, PySem.assign (.Name z pz) env] [v₂, v₃]) _ E _
  refine wpAny_bind (wpAny_holding (wpAny_mono (bindN (s := { s₁ with heap := h' }) S₁ u (r₁.keeps (kHeap K))) (fun _ s₂ h₂ => ?_) fun _ _ x => x))
  show wpAny _ A (do holding [v₃] (PySem.assign (.Name y py) env v₂); assignInOrder [PySem.assign (.Name z pz) env] [v₃]) _ E _
  refine wpAny_bind (wpAny_holding (wpAny_mono (bindN h₂.1.1 u' ((r₂.keeps (kHeap K)).stay (h₂.2 N))) (fun _ s₃ h₃ => ?_) fun _ _ x => x))
  show wpAny _ A (do holding [] (PySem.assign (.Name z pz) env v₃); pure ()) _ E _
  refine wpAny_bind (wpAny_holding (wpAny_mono (bindN h₃.1.1 u'' (((r₃.keeps (kHeap K)).stay (h₂.2 N)).stay (h₃.2 N))) (fun _ s₄ h₄ => wpAny_pure ?_) fun _ _ x => x))
  exact ⟨⟨rfl, h₄.1.1⟩, (kMoves (kTrans h₁.2 K)).trans (h₂.1.2.trans (h₃.1.2.trans h₄.1.2))⟩

/-- `x, y = (e, f)` of two names on one line: the stores are in the other order -/
theorem Ex.swapped2 {x px y py kk tp e pos a b ρ₁ ρ₂} (ev : Ev w k env ρ e (.tuple [a, b])) (u : Upd ρ y b ρ₁) (u' : Upd ρ₁ x a ρ₂)
    (hs : swapsWithSole [.Tuple [.Name x px, .Name y py] kk tp] e pos.line env = pure false := by with_unfolding_all rfl)
    (hw : swappedStores [.Tuple [.Name x px, .Name y py] kk tp] e env = pure (some [x, y]) := by with_unfolding_all rfl) :
    Ex w O k env ρ (.Assign [.Tuple [.Name x px, .Name y py] kk tp] e pos) (.next ρ₂) := fun h₀ N A s E R S => by
  refine Assign_Tuple_swapped (wpAny_mono (ev h₀ N O A s E R S) (fun v s₁ h₁ => ?_) fun _ _ x => x) hs hw
  obtain ⟨t, vs, rfl, na, ht, rs⟩ := h₁.1.tuple_inv
  obtain ⟨v₁, v₂, rfl, r₁, r₂⟩ := rs.two_inv
  refine wpAny_unpackItems_tuple (items := [v₁, v₂].toArray) R.2.2 ht fun h' he => ?_
  have K : Keeps s₁ { s₁ with heap := h' } := kMk (extBut_new he)
  have S₁ := (S.keeps (kHeap h₁.2)).keeps (kHeap K)
  show wpAny _ A (do holding [v₁] (bindName env y v₂); assignInOrder [bindName env x] [v₁]) _ E _
  refine wpAny_bind (wpAny_holding (wpAny_mono (bindB (s := { s₁ with heap := h' }) S₁ u (r₂.keeps (kHeap K))) (fun _ s₂ h₂ => ?_) fun _ _ x => x))
  show wpAny _ A (do holding [] (bindName env x v₁); pure ()) _ E _
  refine wpAny_bind (wpAny_holding (wpAny_mono (bindB h₂.1.1 u' ((r₁.keeps (kHeap K)).stay (h₂.2 N))) (fun _ s₃ h₃ => wpAny_pure ?_) fun _ _ x => x))
  exact ⟨⟨rfl, h₃.1.1⟩, (kMoves (kTrans h₁.2 K)).trans (h₂.1.2.trans h₃.1.2)⟩
end
end Mine
end

section
open PySem PySem.W PyProof.Rows PySem.Calls
set_option maxRecDepth 100000
namespace Mine

section
variable {w : World} {O : Addr → Prop} {k : Nat} {env : Env} {ρ : Ctx}

theorem ltN {h : Heap} {a : Nat} {o : Obj} (e : h.get? a = some o) : a < h.objs.size := Heap.lt_size e

/-- what a comprehension's frame knows: its own letter, and names of the frame around, free in it -/
structure FreeOk (env : Env) (scope : Scope) (cl : List (Str × Addr)) (x : Str) (ρ ρf : Ctx) : Prop where
  clos : closureFor scope env = pure cl
  cells : ∀ y c, cl.lookup y = some c → env.cells.lookup y = some c
  mem : ∀ e ∈ ρf, e ∈ ρ ∧ e.2.plain = true ∧ env.kindOf e.1 ≠ some .local ∧ ((relabel scope env).names.lookup e.1 = some .cell ∨ (relabel scope env).names.lookup e.1 = some .free) ∧ (cl.lookup e.1).isSome = true
  nodup : (x :: ρf.map (·.1)).Nodup
  dbg : (x == ("__debug__" : Str)) = false ∧ (x == ("__classdict__" : Str)) = false

theorem FreeOk.none {env scope x ρ} (hfree : ∀ x ∈ scope.names, x.2 ≠ .free) (h1 : (x == ("__debug__" : Str)) = false) (h2 : (x == ("__classdict__" : Str)) = false) : FreeOk env scope [] x ρ [] :=
  ⟨closureFor_none hfree, (by intro y c h; cases h), (by intro y h; cases h), by simp, ⟨h1, h2⟩⟩

/-- the frame of a comprehension, at its start -/
theorem St.comp {h₀ : Heap} {N : Addr → Prop} {scope : Scope} {cl : List (Str × Addr)} {x : Str} {ρf : Ctx} {h h' : Heap} {C Dl : Addr} {m : Str → Option Value} {d : D} {v : Value} (S : St h₀ N O env h ρ) (FO : FreeOk env scope cl x ρ ρf)
    (hkind : scope.kind = .function) (hx : scope.names.lookup x = some .local) (hC : h.get? C = Option.none) (hD : h.get? Dl = Option.none) (hDex : ∃ o, h'.get? Dl = some o)
    (hk : ∀ b o, h.get? b = some o → h'.get? b = some o) (hn : h'.Ns C m) (hm : m x = some v) (r : Rep (fun b => N b ∨ b = Dl) h' d v) :
    St h₀ (fun b => N b ∨ b = Dl) (fun b => b = Dl) (compEnvC scope cl C env) h' ((x, d) :: ρf) := by
  have mo : ∀ b o, h.get? b = some o → (N b ∨ b = Dl) → N b := fun b o e hb => by
    rcases hb with hb | hb
    · exact hb
    · rw [hb, hD] at e; cases e
  refine ⟨hkind, S.globs, S.blts, S.gh0, fun b o e => ⟨hk b o (S.base b o e).1, ?_⟩, fun b hb => ?_, fun b hb => .inr hb, ⟨m, hn⟩, fun y c hc => ?_, fun y z c hy hz => ?_, FO.nodup, fun e he => ?_, fun e he => ?_⟩
  · rintro ((hb | ⟨y, hy⟩) | hb)
    · have hb' : b = C := hb
      have := (S.base b o e).1; rw [hb', hC] at this; cases this
    · exact (S.base b o e).2 (.inl (.inr ⟨y, FO.cells y b hy⟩))
    · have hb' : b = Dl := hb
      have := (S.base b o e).1; rw [hb', hD] at this; cases this
  · rcases hb with hb | hb
    · obtain ⟨o, e⟩ := S.al b hb; exact ⟨o, hk b o e⟩
    · exact hb ▸ hDex
  · obtain ⟨ov, i⟩ := S.cells y c (FO.cells y c hc); exact ⟨ov, i.keeps hk⟩
  · exact S.apart y z c (FO.cells y c hy) (FO.cells z c hz)
  · rcases List.mem_cons.mp he with rfl | he
    · exact FO.dbg
    · exact S.dbg e (FO.mem e he).1
  · rcases List.mem_cons.mp he with rfl | he
    · exact ⟨.inl (lookup_relabel_local hx), .rep (.inl ⟨lookup_relabel_local hx, m, hn, hm⟩) r⟩
    · obtain ⟨h1, h2, h3, h4, h5⟩ := FO.mem e he
      obtain ⟨c, hc⟩ := Option.isSome_iff_exists.mp h5
      refine ⟨.inr ⟨h4, c, hc⟩, ?_⟩
      have hh := (S.ents e h1).2
      revert hh h2
      generalize e.2 = d2
      intro h2 hh
      cases hh with
      | undef => cases h2
      | own => cases h2
      | rep B r' =>
        rcases B with ⟨a, _⟩ | ⟨a, c', l, i⟩
        · exact absurd a h3
        · have : c' = c := by have := FO.cells _ _ hc; rw [l] at this; cases this; rfl
          subst this
          exact .rep (.inr ⟨h4, c', hc, i.keeps hk⟩) ((r'.more mo).keeps hk)

theorem Ev.listcomp {elt iter : Expr} {x : Str} {px : Pos} {ifs : List Expr} {scope : Scope} {pos : Pos} {cl : List (Str × Addr)} {ρf : Ctx} {dv : D} {ds : List D} (p : D → Bool) (F : D → D)
    (ev : Ev w k env ρ iter dv) (it : Its w k dv ds) (FO : FreeOk env scope cl x ρ ρf)
    (tests : ∀ d ∈ ds, ∀ (h₀ : Heap) (N O : Addr → Prop) (C : Addr) (A : Around) (s : Shared) (E : Value → Shared → Prop), Room k A → St h₀ N O (compEnvC scope cl C env) s.heap ((x, d) :: ρf) →
      wpAny (model PG w) A (forIn ifs true fun c r => if r = true then do let ok ← isTrue c (compEnvC scope cl C env) (eval c (compEnvC scope cl C env)); pure (ForInStep.yield ok) else pure (ForInStep.yield r)) (fun ok s' => ok = p d ∧ Keeps s s') E s)
    (elts : ∀ d ∈ ds, p d = true → ∀ C, Ev w k (compEnvC scope cl C env) ((x, d) :: ρf) elt (F d))
    (hcell : ∀ y ∈ scope.names, y.2 ≠ .cell := by decide) (hkind : scope.kind = .function := by with_unfolding_all rfl)
    (hnames : ∀ y ∈ scope.names, y.2 = .local → scope.names.lookup y.1 = some .local := by decide) (hx : scope.names.lookup x = some .local := by with_unfolding_all rfl)
    (hs : ∀ x, foldedSetIterable iter env x = pure x := by intro _; with_unfolding_all rfl) :
    Ev w k env ρ (.ListComp elt [⟨.Name x px, iter, ifs, 0⟩] scope pos) (.list ((ds.filter p).map F)) := fun h₀ N O A s E R S => by
  rw [eval_ListComp]
  refine wpAny_comprehension_free (use := Option.none) rfl hs FO.clos hkind hnames (wpAny_mono (ev h₀ N O A s E R S) (fun v s₁ h₁ => ?_) fun _ _ x => x)
  have S₁ := S.keeps (kHeap h₁.2)
  refine wpAny_mono (it N A s₁ E v R S₁.gh S₁.al h₁.1) (fun itv s₂ h₂ => ?_) fun _ _ x => x
  obtain ⟨I, fp, wr, P, T, rfl, W, T0, K, hlt, hfp, hwr, hns, hP, hsz⟩ := h₂
  have S₂ := S₁.keeps (kHeap K)
  refine wpAny_newObj_type (wpAny_newFunctionEnv hcell (by intro y hy; simp at hy) (fun h₃ hns₃ hsb₃ => ?_) hkind)
  dsimp only at hns₃ hsb₃ ⊢
  generalize hH : s₂.heap.push { cls := .type "list", dict := Option.none, data := .seq ([] : List Value).toArray } = H at hns₃ hsb₃ ⊢
  generalize hDd : s₂.heap.objs.size = Dl
  generalize hCd : H.objs.size = C at hns₃ hsb₃ ⊢
  have hDC : Dl + 1 = C := by rw [← hCd, ← hH, Heap.size_push, hDd]
  have hDC' : Dl ≠ C := Nat.ne_of_lt (by omega)
  have old : ∀ b o, s₂.heap.get? b = some o → h₃.get? b = some o := fun b o e => by
    have hb := ltN e
    exact hsb₃.extBut b o (Nat.ne_of_lt (by omega)) (Heap.get?_push_of_some _ (hH ▸ Heap.get?_push_of_some _ e))
  have hacc : h₃.PlainList Dl #[] := ⟨_, hsb₃.extBut _ _ hDC' (Heap.get?_push_of_some _ (hH ▸ hDd ▸ Heap.get?_push_size _ rfl))⟩
  have fresh : ∀ a : Nat, Dl ≤ a → s₂.heap.get? a = Option.none := fun a ha => by
    cases e : s₂.heap.get? a with
    | none => rfl
    | some o' => exact absurd (ltN e) (by omega)
  have hDf : Dl ∉ fp := fun hm => by have h : Dl < s₂.heap.objs.size := hlt _ hm; omega
  have hCf : C ∉ fp := fun hm => by have h : C < s₂.heap.objs.size := hlt _ hm; omega
  have hDw : Dl ∉ wr := fun hm => hDf (W.sub _ hm)
  have hCw : C ∉ wr := fun hm => hCf (W.sub _ hm)
  have T3 : T 0 h₃ := W.frame _ _ _ T0 fun b _ o e => old b o e
  have nD : ¬ N Dl := S₂.al.above (Nat.le_of_eq hDd)
  have keepAll : ∀ (h' : Heap) (tk : Nat), (∀ b o, b ≠ C → b ∉ wr → b ≠ Dl → s₂.heap.get? b = some o → h'.get? b = some o) → Keeps s { s₂ with heap := h', toks := tk } := fun h' tk q => by
    obtain ⟨h1, t1, e1, q1⟩ := kTrans h₁.2 K
    subst e1
    refine ⟨h', tk, rfl, fun b o e => q b o (fun hb => ?_) (fun hb => ?_) (fun hb => ?_) (q1 b o e)⟩
    · have := q1 b o e; rw [hb] at this; rw [fresh C (by omega)] at this; cases this
    · have := kHeap h₁.2 b o e; rw [hwr b hb] at this; cases this
    · have := q1 b o e; rw [hb] at this; rw [fresh Dl (by omega)] at this; cases this
  -- the loop
  have loop : ∀ s₃ : Shared, s₃ = { s₂ with heap := h₃, toks := s₂.toks + ([] : List (Str × Value)).length } →
      codeAny (model PG w) A (.compLoop (.ListComp elt [⟨.Name x px, iter, ifs, 0⟩] scope pos) 0 (.ref I) (.ref Dl) (compEnvC scope cl C env))
        (compPost (model PG w) A E Option.none (fun v s' => Rep N s'.heap (.list ((ds.filter p).map F)) v ∧ Keeps s s') (.ref Dl) C) s₃ := by
    rintro s₃ rfl
    refine codeAny_compLoop_tests (fun n s' => ∃ i rest m ys, n = rest.length ∧ ds.drop i = rest ∧ i + rest.length = ds.length ∧ T i s'.heap ∧ s'.heap.PlainList Dl ys ∧ s'.heap.Ns C m ∧
        Reps (fun b => N b ∨ b = Dl) s'.heap (((ds.take i).filter p).map F) ys.toList ∧ (∀ b o, b ≠ C → b ∉ wr → b ≠ Dl → s₂.heap.get? b = some o → s'.heap.get? b = some o) ∧ ∃ h' tk, s' = { s₂ with heap := h', toks := tk }) ?_ ds.length
      ⟨0, ds, _, #[], rfl, rfl, by omega, T3, hacc, hns₃, by simpa using Reps.nil, fun b o _ _ _ e => old b o e, _, _, rfl⟩
    rintro n s' ⟨i, rest, m, ys, rfl, hdrop, hlen, Ti, hl, hn, hR, hk, h', tk, rfl⟩
    have nsq : ∀ b ∈ wr, ∀ o xs n, h'.get? b = some o → o.data ≠ .seq xs n := fun b hb o xs n e => hns i h' b o xs n Ti hb e
    have nsC : ∀ {h4 : Heap} {m4 : Str → Option Value}, h4.Ns C m4 → ∀ o xs n, h4.get? C = some o → o.data ≠ .seq xs n := fun hn o xs n e d => by
      obtain ⟨o', es, ep, e', d', _⟩ := hn
      rw [e] at e'; cases e'; rw [d] at d'; cases d'
    cases rest with
    | nil =>
      have hi : i = ds.length := by simpa using hlen
      subst hi
      refine W.done _ _ _ Ti fun h'' tk' hk' => ?_
      have hn' : h''.Ns C m := hn.at' fun o e => hk' _ o hCw e
      refine ⟨m, hn', fun h4 hs4 => ⟨?_, keepAll h4 tk' fun b o h1 h2 h3 e => hs4.extBut b o h1 (hk' b o h2 (hk b o h1 h2 h3 e))⟩⟩
      have l4 : h4.IsList Dl ys.toList.toArray := by
        rw [Array.toArray_toList]
        exact ((hl.at fun o e => hk' _ o hDw e).extBut hs4.extBut hDC').isList
      refine Rep.list_mk nD l4 ?_
      rw [List.take_of_length_le (Nat.le_refl _)] at hR
      refine Reps.less (N := fun b => N b ∨ b = Dl) (fun b h => .inl h) _ _ ?_
      refine Reps.stay (fun b o xs n _ e d => ?_) _ _ (Reps.stay (h := h') (h' := h'') (fun b o xs n _ e d => hk' b o (fun hb => nsq b hb o xs n e d) e) _ _ hR)
      exact hs4.extBut b o (fun hb => by subst hb; exact nsC hn' o xs n e d) e
    | cons d rest =>
      have hi : i < ds.length := by simp only [List.length_cons] at hlen; omega
      have hdi : ds[i]? = some d := by
        have := congrArg List.head? hdrop
        rw [List.head?_drop] at this; simpa using this
      have hdm : d ∈ ds := List.mem_of_getElem? hdi
      have hdrop' : ds.drop (i + 1) = rest := by
        have := congrArg List.tail hdrop
        rw [List.tail_drop] at this; simpa using this
      have htake : ds.take (i + 1) = ds.take i ++ [d] := by rw [List.take_add_one, hdi]; rfl
      refine W.item i _ _ _ hi Ti fun v' h4 tk4 hPv T4 hk4 => ?_
      have hn4 : h4.Ns C m := hn.at' fun o e => hk4 _ o hCw e
      refine wpAny_assign_Name (wpAny_storeName_local (env := compEnvC scope cl C env) (lookup_relabel_local hx) hn4 (fun h5 hn5 hs5 => ?_) (by simp [compEnvC, relabel, hkind]))
      have hs5' : Heap.SameBut C h4 h5 := hs5
      have T5 : T (i + 1) h5 := W.frame _ _ _ T4 fun b hb o e => hs5'.extBut b o (fun h => hCf (h ▸ hb)) e
      have up : ∀ b o, b ≠ C → b ∉ wr → b ≠ Dl → s₂.heap.get? b = some o → h5.get? b = some o := fun b o h1 h2 h3 e => hs5'.extBut b o h1 (hk4 b o h2 (hk b o h1 h2 h3 e))
      have l5 : h5.PlainList Dl ys := (hl.at fun o e => hk4 _ o hDw e).extBut hs5'.extBut hDC'
      have sk5 : ∀ M, SeqKeep M h' h5 := fun M b o xs n _ e dd => hs5'.extBut b o (fun hb => by subst hb; exact nsC hn o xs n e dd) (hk4 b o (fun hb => nsq b hb o xs n e dd) e)
      have R5 := Reps.stay (sk5 _) _ _ hR
      have rd : Rep (fun b => N b ∨ b = Dl) h5 d v' := by
        have r2 : Rep N s₂.heap d v' := hP i v' d hPv hdi
        have r3 : Rep (fun b => N b ∨ b = Dl) s₂.heap d v' := r2.more fun b o e hb => by
          rcases hb with hb | hb
          · exact hb
          · rw [hb, fresh Dl (by omega)] at e; cases e
        refine r3.stay fun b o xs n nb e dd => up b o (fun hb => ?_) (fun hb => ?_) (fun hb => nb (.inr hb)) e
        · rw [hb, fresh C (by omega)] at e; cases e
        · exact hns 0 s₂.heap b o xs n T0 hb e dd
      have Kw : ∀ b o, s₂.heap.get? b = some o → b ∉ wr → h5.get? b = some o := fun b o e hb => up b o (fun h => by rw [h, fresh C (by omega)] at e; cases e) hb (fun h => by rw [h, fresh Dl (by omega)] at e; cases e) e
      -- the frame: of the objects before the iterator
      have S5 : St h₀ (fun b => N b ∨ b = Dl) (fun b => b = Dl) (compEnvC scope cl C env) h5 ((x, d) :: ρf) := by
        refine St.comp (h := s₁.heap) S₁ FO hkind hx ?_ ?_ ⟨_, l5.choose_spec⟩ (fun b o e => Kw b o (kHeap K b o e) fun hb => by rw [hwr b hb] at e; cases e) hn5 (by simp) rd
        · cases e : s₁.heap.get? C with
          | none => rfl
          | some o => have := kHeap K _ _ e; rw [fresh C (by omega)] at this; cases this
        · cases e : s₁.heap.get? Dl with
          | none => rfl
          | some o => have := kHeap K _ _ e; rw [fresh Dl (by omega)] at this; cases this
      refine wpAny_mono (tests d hdm h₀ _ _ C A { s₂ with heap := h5, toks := _ } _ R S5) (fun ok s6 h6 => ?_) fun _ _ x => x
      obtain ⟨rfl, h6', tk6, rfl, k6⟩ := h6
      cases hp : p d with
      | false =>
        simp only [Bool.false_eq_true, if_false]
        refine ⟨rest.length, by simp, i + 1, rest, _, ys, rfl, hdrop', by simp only [List.length_cons] at hlen; omega, W.frame _ _ _ T5 fun b _ o e => k6 b o e, l5.at fun o e => k6 _ o e, hn5.keeps k6, ?_, fun b o h1 h2 h3 e => k6 b o (up b o h1 h2 h3 e), _, _, rfl⟩
        rw [htake, List.filter_append, List.map_append]
        simpa [hp] using R5.keeps k6
      | true =>
        simp only [if_true]
        refine wpAny_mono (elts d hdm hp C h₀ _ _ A _ _ R (S5.keeps k6)) (fun y s7 h7 => ?_) fun _ _ x => x
        obtain ⟨ry, h7', tk7, rfl, k7⟩ := h7
        have hys : ys.size ≤ sizeLine := by
          have e1 := hR.length
          have e2 : (((ds.take i).filter p).map F).length ≤ i := by
            rw [List.length_map]; exact Nat.le_trans (List.length_filter_le _ _) (by rw [List.length_take]; omega)
          have e3 : ys.toList.length = ys.size := by simp
          omega
        refine wpAny_list_append_plain (hsz := hys) ((l5.at fun o e => k6 _ o e).at fun o e => k7 _ o e) fun h8 l8 hs8 => ?_
        refine ⟨rest.length, by simp, i + 1, rest, _, ys.push y, rfl, hdrop', by simp only [List.length_cons] at hlen; omega, ?_, l8, ((hn5.keeps k6).keeps k7).sameBut hs8 (Ne.symm hDC'), ?_, fun b o h1 h2 h3 e => hs8.extBut b o h3 (k7 b o (k6 b o (up b o h1 h2 h3 e))), _, _, rfl⟩
        · exact W.frame _ _ _ T5 fun b hb o e => hs8.extBut b o (fun h => hDf (h ▸ hb)) (k7 b o (k6 b o e))
        · rw [htake, List.filter_append, List.map_append, Array.toList_push]
          refine Reps.append ?_ ?_
          · refine Reps.stay (fun b o xs n nb e dd => hs8.extBut b o (fun h => nb (.inr h)) e) _ _ ((R5.keeps k6).keeps k7)
          · have : (List.filter p [d]).map F = [F d] := by simp [hp]
            rw [this]
            exact .cons (ry.stay fun b o xs n nb e dd => hs8.extBut b o (fun h => nb (.inr h)) e) .nil
  exact codeAny_compStart_list (loop _ rfl) (W.self 0 _ _ _ T3 (loop _ rfl))
end
end Mine
end

section
open PySem PySem.W PyProof.Rows PySem.Calls
set_option maxRecDepth 100000
namespace Mine

theorem kSame {s : Shared} {n : Nat} : Keeps s { s with toks := n } := kToks n

section
variable {w : World} {k : Nat}

/-! ## ints -/
theorem Bin.addI {a b : Int} : Bin w k .Add (.int a) (.int b) (.int (a + b)) := .mk2 fun N A s E v u R G al x y => by
  obtain ⟨t, rfl⟩ := x.int_inv
  obtain ⟨t', rfl⟩ := y.int_inv
  exact PyProof.Rows.add_int ⟨.int_mk, kSame⟩
theorem Inp.addI {a b : Int} : Inp w k .Add (.int a) (.int b) (.int (a + b)) := .mk2 fun N A s E v u R G al x y => by
  obtain ⟨t, rfl⟩ := x.int_inv
  obtain ⟨t', rfl⟩ := y.int_inv
  exact PyProof.Rows.iadd_int ⟨.int_mk, kSame⟩
theorem Bin.subI {a b : Int} : Bin w k .Sub (.int a) (.int b) (.int (a - b)) := .mk2 fun N A s E v u R G al x y => by
  obtain ⟨t, rfl⟩ := x.int_inv
  obtain ⟨t', rfl⟩ := y.int_inv
  exact PyProof.Rows.sub_int ⟨.int_mk, kSame⟩
theorem Bin.mulI {a b : Int} (h : IntMulOk a b) : Bin w k .Mult (.int a) (.int b) (.int (a * b)) := .mk2 fun N A s E v u R G al x y => by
  obtain ⟨t, rfl⟩ := x.int_inv
  obtain ⟨t', rfl⟩ := y.int_inv
  exact PyProof.Rows.mul_int ⟨.int_mk, kSame⟩ h
theorem Bin.divI {a b : Int} (hb : b ≠ 0) (hs : b.natAbs < 1073741824) : Bin w k .FloorDiv (.int a) (.int b) (.int (a.fdiv b)) := .mk2 fun N A s E v u R G al x y => by
  obtain ⟨t, rfl⟩ := x.int_inv
  obtain ⟨t', rfl⟩ := y.int_inv
  exact PyProof.Rows.floordiv_int hb ⟨.int_mk, kSame⟩ (.inl (PyProof.noPylong_small hs))
theorem Bin.modI {a b : Int} (hb : b ≠ 0) : Bin w k .Mod (.int a) (.int b) (.int (a.fmod b)) := .mk2 fun N A s E v u R G al x y => by
  obtain ⟨t, rfl⟩ := x.int_inv
  obtain ⟨t', rfl⟩ := y.int_inv
  exact PyProof.Rows.mod_int' hb ⟨.int_mk, kSame⟩
theorem Una.negI {a : Int} : Una w k .USub (.int a) (.int (-a)) := .mk1 fun N A s E v R G al x => by
  obtain ⟨t, rfl⟩ := x.int_inv
  exact PyProof.Rows.neg_int ⟨.int_mk, kSame⟩
theorem Cmp.ltI {a b : Int} : Cmp w k .Lt (.int a) (.int b) (decide (a < b)) := .mk2 fun N A s E v u R G al x y => by
  obtain ⟨t, rfl⟩ := x.int_inv
  obtain ⟨t', rfl⟩ := y.int_inv
  exact PyProof.Rows.lt_int ⟨.val_mk, kRefl s⟩
theorem Cmp.gtI {a b : Int} : Cmp w k .Gt (.int a) (.int b) (decide (b < a)) := .mk2 fun N A s E v u R G al x y => by
  obtain ⟨t, rfl⟩ := x.int_inv
  obtain ⟨t', rfl⟩ := y.int_inv
  exact PyProof.Rows.gt_int ⟨.val_mk, kRefl s⟩
theorem Cmp.eqI {a b : Int} : Cmp w k .Eq (.int a) (.int b) (a == b) := .mk2 fun N A s E v u R G al x y => by
  obtain ⟨t, rfl⟩ := x.int_inv
  obtain ⟨t', rfl⟩ := y.int_inv
  exact PyProof.Rows.eq_int ⟨.val_mk, kRefl s⟩
theorem Tru.int {a : Int} : Tru w k (.int a) (a != 0) := .mk1 fun N A s E v R G al x => by
  obtain ⟨t, rfl⟩ := x.int_inv
  exact PyProof.Rows.truthy_int ⟨rfl, kRefl s⟩
theorem Tru.bool {a : Bool} : Tru w k (.bool a) a := .mk1 fun N A s E v R G al x => by
  obtain rfl := x.val_inv
  exact wpAny_truthy_bool ⟨rfl, kRefl s⟩
theorem Tru.none : Tru w k .none false := .mk1 fun N A s E v R G al x => by
  obtain rfl := x.val_inv
  show wpAny _ A (pure false) _ E s
  exact wpAny_pure ⟨rfl, kRefl s⟩
theorem Op.absI {a : Int} : Op w k (fun vs => call (.builtin "abs") vs) [.int a] (.int (a.natAbs : Int)) := fun N A s E vs R G al r => by
  obtain ⟨v, rfl, x⟩ := r.one_inv
  obtain ⟨t, rfl⟩ := x.int_inv
  refine call_abs_int fun u tk => ⟨?_, kSame⟩
  have : (if a < 0 then -a else a) = (a.natAbs : Int) := by split <;> omega
  rw [this]; exact .int_mk
theorem Op.intI {a : Int} : Op w k (fun vs => call (.type "int") vs) [.int a] (.int a) := fun N A s E vs R G al r => by
  obtain ⟨v, rfl, x⟩ := r.one_inv
  obtain ⟨t, rfl⟩ := x.int_inv
  exact call_int_int ⟨.int_mk, kRefl s⟩
theorem Op.divmodI {a b : Int} (hb : b ≠ 0) (hs : b.natAbs < 1073741824) : Op w k (fun vs => call (.builtin "divmod") vs) [.int a, .int b] (.tuple [.int (a.fdiv b), .int (a.fmod b)]) := fun N A s E vs R G al r => by
  obtain ⟨v, u, rfl, x, y⟩ := r.two_inv
  obtain ⟨t, rfl⟩ := x.int_inv
  obtain ⟨t', rfl⟩ := y.int_inv
  refine divmod_int hb ⟨.tuple_mk (vs := [_, _]) al.fresh ⟨_, Heap.get?_push_size _ rfl, rfl, 0, rfl⟩ (.two .int_mk .int_mk), ?_⟩ (.inl (PyProof.noPylong_small hs))
  exact ⟨_, _, rfl, fun b o e => Heap.get?_push_of_some _ e⟩

/-! ## bytes -/
theorem Bin.addB {a b : List UInt8} (h : a.length + b.length ≤ 16777216) : Bin w k .Add (.bytes a) (.bytes b) (.bytes (a ++ b)) := .mk2 fun N A s E v u R G al x y => by
  obtain ⟨t, rfl⟩ := x.bytes_inv
  obtain ⟨t', rfl⟩ := y.bytes_inv
  refine KBy.add_bytes (by simpa using h) fun t' kk => ⟨?_, kSame⟩
  rw [List.append_toArray]; exact .bytes_mk
theorem Cmp.eqB {a b : List UInt8} : Cmp w k .Eq (.bytes a) (.bytes b) (a == b) := .mk2 fun N A s E v u R G al x y => by
  obtain ⟨t, rfl⟩ := x.bytes_inv
  obtain ⟨t', rfl⟩ := y.bytes_inv
  exact eq_bytes ⟨.val_mk, kRefl s⟩
theorem Cmp.neB {a b : List UInt8} : Cmp w k .NotEq (.bytes a) (.bytes b) (a != b) := .mk2 fun N A s E v u R G al x y => by
  obtain ⟨t, rfl⟩ := x.bytes_inv
  obtain ⟨t', rfl⟩ := y.bytes_inv
  exact ne_bytes ⟨.val_mk, kRefl s⟩
theorem Tru.bytes {a : List UInt8} (h : a.length ≤ 16777216) : Tru w k (.bytes a) (!a.isEmpty) := .mk1 fun N A s E v R G al x => by
  obtain ⟨t, rfl⟩ := x.bytes_inv
  refine truthy_bytes (by simp; omega) ⟨?_, kSame⟩
  cases a <;> simp
  omega
theorem Op.lenB {a : List UInt8} (h : a.length ≤ 16777216) : Op w k (fun vs => call (.builtin "len") vs) [.bytes a] (.int a.length) := fun N A s E vs R G al r => by
  obtain ⟨v, rfl, x⟩ := r.one_inv
  obtain ⟨t, rfl⟩ := x.bytes_inv
  refine len_bytes (by simp; omega) ⟨?_, kSame⟩
  rw [show (a.toArray.size : Int) = (a.length : Int) by simp]; exact .int_mk
theorem Bin.mulB {b : List UInt8} {n : Int} (hb : b ≠ []) (hlo : -1048576 ≤ n) (hn : n ≤ 1048576) (hs : b.length ≤ 16) : Bin w k .Mult (.bytes b) (.int n) (.bytes (List.replicate n.toNat b).flatten) := .mk2 fun N A s E v u R G al x y => by
  obtain ⟨t, rfl⟩ := x.bytes_inv
  obtain ⟨t', rfl⟩ := y.int_inv
  exact bytes_mul_any hb hlo hn hs fun t' kk => ⟨.bytes_mk, kSame⟩

/-- the run of a list that a slice by ones picks -/
def cut {α : Type} (l : List α) (lo hi : Option Int) : List α := (l.drop (lo.elim 0 (clipAt l.length))).take (hi.elim l.length (clipAt l.length) - lo.elim 0 (clipAt l.length))

theorem Sli.bytes {a : List UInt8} {lo hi : Option Int} (h : a.length ≤ 16777216) : Sli w k (.bytes a) lo hi Option.none (.bytes (cut a lo hi)) := fun N A s E v b l u t R G al r hl hu ht hs => by
  obtain ⟨t, rfl⟩ := r.bytes_inv
  cases ht
  refine ⟨"bytes", _, FB.slot_bytes_getitem.lookup, typeIs_bytes _ _ _, getItem_meets (typeIs_bytes _ _ _) (by decide) FB.slot_bytes_getitem FB.entry_bytes_getitem (FB.args_bytes_getitem_2 _ _) (KBc.meets_slice2 _ _ _ hl hu) ⟨hs, ?_, fun t' kk => ⟨?_, kSame⟩⟩⟩
  · exact Nat.le_trans (KBc.size_picked_le _ _ _) (by simpa [sizeLine_eq] using h)
  · rw [KBc.picked_eq]
    have e : ((a.toArray.toList.drop (lo.elim 0 (clipAt a.toArray.size))).take (hi.elim a.toArray.size (clipAt a.toArray.size) - lo.elim 0 (clipAt a.toArray.size))) = cut a lo hi := by simp [cut]
    rw [e]; exact .bytes_mk

/-! ## lists -/
theorem Tru.list {ds : List D} (h : ds.length ≤ 16777216) : Tru w k (.list ds) (!ds.isEmpty) := .mk1 fun N A s E v R G al x => by
  obtain ⟨a, vs, rfl, na, l, rs⟩ := x.list_inv
  have hv := rs.length
  refine wpAny_truthy_list l (by simp; omega) ⟨?_, kSame⟩
  cases vs <;> cases ds <;> simp at hv ⊢
theorem Op.lenL {ds : List D} (h : ds.length ≤ 16777216) : Op w k (fun vs => call (.builtin "len") vs) [.list ds] (.int ds.length) := fun N A s E vs R G al r => by
  obtain ⟨v, rfl, x⟩ := r.one_inv
  obtain ⟨a, vs, rfl, na, l, rs⟩ := x.list_inv
  have hv := rs.length
  refine len_list l (by simp; omega) ⟨?_, kSame⟩
  rw [show (vs.toArray.size : Int) = (ds.length : Int) by simp [hv]]; exact .int_mk
theorem Bin.addL {as bs : List D} (h : as.length + bs.length ≤ 16777216) : Bin w k .Add (.list as) (.list bs) (.list (as ++ bs)) := .mk2 fun N A s E v u R G al x y => by
  obtain ⟨a, vs, rfl, na, l, rs⟩ := x.list_inv
  obtain ⟨b, ws, rfl, nb, l2, rs2⟩ := y.list_inv
  obtain ⟨⟨cls, dd, data, sl⟩, ho, hc, n, hd⟩ := id l
  obtain ⟨⟨cls2, dd2, data2, sl2⟩, ho2, hc2, n2, hd2⟩ := id l2
  simp only at hc hd hc2 hd2
  subst hc hd hc2 hd2
  have e : vs.toArray ++ ws.toArray = (vs ++ ws).toArray := by simp
  refine concat_meets ⟨_, ho, rfl⟩ ⟨_, ho2, rfl⟩ noFill_list_add seq_list_add PySem.F.slot_list_add PySem.F.entry_list_add (PySem.F.args_list_add_2 _ _) (list_addW a b vs.toArray ws.toArray n n2 dd dd2 sl sl2 (by rw [sizeLine_eq]; simp [rs.length, rs2.length]; omega)) ⟨ho, ho2, ?_⟩
  rw [e]
  exact ⟨.list_mk (vs := vs ++ ws) al.fresh ⟨_, Heap.get?_push_size _ rfl, rfl, 0, rfl⟩ ((rs.append rs2).keeps fun _ _ e => Heap.get?_push_of_some _ e), kPush _⟩

theorem Reps.cut {N : Addr → Prop} {h : Heap} {ds : List D} {vs : List Value} (r : Reps N h ds vs) (lo hi : Option Int) : Reps N h (Mine.cut ds lo hi) (Mine.cut vs lo hi) := by
  unfold Mine.cut
  rw [r.length]
  exact (r.drop _).take _

theorem Sli.list {ds : List D} {lo hi : Option Int} (h : ds.length ≤ 16777216) : Sli w k (.list ds) lo hi Option.none (.list (cut ds lo hi)) := fun N A s E v b l u t R G al r hl hu ht hs => by
  obtain ⟨a, vs, rfl, na, ll, rs⟩ := r.list_inv
  refine ⟨"list", _, list_getitem_lookup, ll.typeIs, wpAny_getItem_list_slice ll hs hl hu ht (by cases ht; simp) ?_ (by rw [sizeLine_eq]; simp [rs.length]; omega)⟩
  cases ht
  have e : slicePick vs.toArray lo hi Option.none = (cut vs lo hi).toArray := by rw [slicePick_plain]; simp [cut]
  rw [e]
  exact ⟨.list_mk (vs := cut vs lo hi) al.fresh ⟨_, Heap.get?_push_size _ rfl, rfl, 0, rfl⟩ ((rs.cut lo hi).keeps fun _ _ e => Heap.get?_push_of_some _ e), kPush _⟩

/-- an item by a place in bounds, from the front or from behind -/
theorem Itm.listPos {ds : List D} {i : Int} {d : D} (h0 : 0 ≤ i) (hd : ds[i.toNat]? = some d) (hhi : i < 2 ^ 63) : Itm w k (.list ds) (.int i) d := fun N A s E v u R G al x y => by
  obtain ⟨a, vs, rfl, na, l, rs⟩ := x.list_inv
  obtain ⟨t, rfl⟩ := y.int_inv
  obtain ⟨v, hv, rv⟩ := rs.get hd
  exact ⟨"list", _, list_getitem_lookup, l.typeIs, wpAny_getItem_list l h0 hhi (by simpa using hv) ⟨rv, kRefl s⟩⟩
theorem Itm.listNeg {ds : List D} {i : Int} {d : D} (h0 : i < 0) (h1 : -(ds.length : Int) ≤ i) (hd : ds[(i + ds.length).toNat]? = some d) (hlo : -(2 ^ 63) ≤ i) : Itm w k (.list ds) (.int i) d := fun N A s E v u R G al x y => by
  obtain ⟨a, vs, rfl, na, l, rs⟩ := x.list_inv
  obtain ⟨t, rfl⟩ := y.int_inv
  obtain ⟨v, hv, rv⟩ := rs.get hd
  exact ⟨"list", _, list_getitem_lookup, l.typeIs, wpAny_getItem_list_neg l h0 (by simpa [rs.length] using h1) hlo (by simpa [rs.length] using hv) ⟨rv, kRefl s⟩⟩
theorem Itm.tuple {ds : List D} {i : Int} {d : D} {j : Nat} (hj : seqIndex? i ds.length = some j) (hd : ds[j]? = some d) (hlo : -(2 ^ 63) ≤ i) (hhi : i < 2 ^ 63) : Itm w k (.tuple ds) (.int i) d := fun N A s E v u R G al x y => by
  obtain ⟨a, vs, rfl, na, l, rs⟩ := x.tuple_inv
  obtain ⟨t, rfl⟩ := y.int_inv
  obtain ⟨v, hv, rv⟩ := rs.get hd
  refine ⟨"tuple", _, slot_tuple_getitem.lookup, l.typeIs, getItem_tuple l hlo hhi (by simpa [rs.length] using hj) (by simpa using hv) ⟨rv, kRefl s⟩⟩

theorem fold_rep {α : Type} (b : List α) : ∀ (n : Nat) (acc : List α), (List.replicate n b.toArray).foldl (fun x1 x2 => x1 ++ x2) acc.toArray = (acc ++ (List.replicate n b).flatten).toArray
  | 0, acc => by simp
  | n + 1, acc => by
    rw [List.replicate_succ, List.foldl_cons, List.append_toArray, fold_rep b n (acc ++ b), List.replicate_succ, List.flatten_cons, List.append_assoc]
theorem Reps.rep {N : Addr → Prop} {h : Heap} {ds : List D} {vs : List Value} (r : Reps N h ds vs) : ∀ n : Nat, Reps N h (List.replicate n ds).flatten (List.replicate n vs).flatten
  | 0 => by simpa using Reps.nil
  | n + 1 => by
    rw [List.replicate_succ, List.flatten_cons, List.replicate_succ, List.flatten_cons]
    exact r.append (Reps.rep r n)

/-- `[..] * n` -/
theorem Ev.listmul {env : Env} {ρ : Ctx} {es : List Expr} {lp pos : Pos} {n : Expr} {ds : List D} {x : Int} (ha : Evs w k env ρ es ds) (hn : Ev w k env ρ n (.int x))
    (hlo : -(2 ^ 63 : Int) ≤ x) (hhi : x < 2 ^ 63) (hsz : ds.length * x.toNat ≤ 2 ^ 24) (hl : ds.length ≤ 2 ^ 24) :
    Ev w k env ρ (.BinOp (.List es lp) .Mult n pos) (.list (List.replicate x.toNat ds).flatten) := fun h₀ N O A s E R S => by
  refine wpAny_BinOp (List_ (wpAny_mono (ha h₀ N O A s E lp R S) (fun vs s₁ h₁ => ?_) fun _ _ x => x))
  have hv : vs.length = ds.length := h₁.1.length
  have S₁ := S.keeps (kHeap h₁.2)
  refine wpAny_newObj_type ?_ (by show vs.toArray.size ≤ sizeLine; rw [List.size_toArray, hv]; exact hl)
  have P : Keeps s₁ { s₁ with heap := s₁.heap.push { cls := .type "list", data := .seq vs.toArray } } := kPush _
  have S₂ := S₁.keeps (kHeap P)
  refine wpAny_mono (hn h₀ N O A _ E R S₂) (fun u s₃ h₃ => ?_) fun _ _ x => x
  have S₃ := S₂.keeps (kHeap h₃.2)
  obtain ⟨t, rfl⟩ := h₃.1.int_inv
  have hl3 := kHeap h₃.2 _ _ (Heap.get?_push_size s₁.heap (o := { cls := .type "list", data := .seq vs.toArray }) rfl)
  refine wpAny_binaryOp_repeat_ref (T := "list") (U := "int") (by decide) ⟨_, hl3, rfl⟩ (fun s' => typeIs_int s' x t) noFill_list_mul F.fills_int_mul F.slot_int_rmul repeat_list F.slot_int_index.lookup
    (call_meets F.slot_int_rmul (typeIs_int s₃ x t) F.entry_int_rmul (F.args_int_rmul_2 _ _) (int___rmul___int_list x t _ _ 0)
      ⟨hl3, rfl, ⟨_, hl3, rfl⟩, call_meets F.slot_list_mul ⟨_, hl3, rfl⟩ F.entry_list_mul (F.args_list_mul_2 _ _)
        (AutoListH.list___mul___list_int_3 _ _ 0 x t (by simp [Builtin.List.listFitsIndex]; omega) (by simp [hv]; omega) (by simp [Builtin.List.listTooLong, sizeLine, hv]; omega))
        ⟨hl3, ?_, ?_⟩⟩)
  · have e : (List.foldl (fun x1 x2 => x1 ++ x2) #[] (List.replicate (if vs.toArray.isEmpty = true then 0 else x.toNat) vs.toArray)) = ((List.replicate x.toNat vs).flatten).toArray := by
      have h0 := fold_rep vs (if vs.toArray.isEmpty = true then 0 else x.toNat) []
      simp only [List.nil_append] at h0
      rw [show (#[] : Array Value) = ([] : List Value).toArray from rfl, h0]
      congr 1
      cases vs with
      | nil => simp
      | cons v r => simp
    rw [e]
    exact .list_mk (vs := (List.replicate x.toNat vs).flatten) S₃.al.fresh ⟨_, Heap.get?_push_size _ rfl, rfl, 0, rfl⟩ ((((h₁.1.keeps (kHeap P)).keeps (kHeap h₃.2)).rep _).keeps fun _ _ e => Heap.get?_push_of_some _ e)
  · exact kTrans h₁.2 (kTrans P (kTrans h₃.2 ⟨_, _, rfl, fun b o e => Heap.get?_push_of_some _ e⟩))
end
end Mine
end

section
open PySem PySem.W PyProof.Rows PySem.Calls PySem.SeqAt
set_option maxRecDepth 100000
namespace Mine

/-! ## equality of data -/
mutual
def eqD : D → D → Bool
  | .int a, .int b => a == b
  | .bytes a, .bytes b => a == b
  | .list as, .list bs => eqDs as bs
  | .tuple as, .tuple bs => eqDs as bs
  | _, _ => false
def eqDs : List D → List D → Bool
  | [], [] => true
  | a :: as, b :: bs => eqD a b && eqDs as bs
  | _, _ => false
end
mutual
/-- of the same kind, at most n deep -/
def okD : Nat → D → D → Bool
  | _, .int _, .int _ => true
  | _, .bytes _, .bytes _ => true
  | n + 1, .list as, .list bs => okDs n as bs
  | n + 1, .tuple as, .tuple bs => okDs n as bs
  | _, _, _ => false
def okDs : Nat → List D → List D → Bool
  | n, a :: as, b :: bs => okD n a b && okDs n as bs
  | _, _, _ => true
end

theorem eqDs_len : ∀ {as bs : List D}, eqDs as bs = true → as.length = bs.length
  | [], [], _ => rfl
  | a :: as, b :: bs, h => by
    simp only [eqDs, Bool.and_eq_true] at h
    simp [eqDs_len h.2]
  | [], _ :: _, h => by simp [eqDs] at h
  | _ :: _, [], h => by simp [eqDs] at h
theorem okDs_get : ∀ {n : Nat} {as bs : List D} {i : Nat} {a b : D}, okDs n as bs = true → as[i]? = some a → bs[i]? = some b → okD n a b = true
  | n, [], _, _, _, _, _, h, _ => by simp at h
  | n, _ :: _, [], _, _, _, _, _, h => by simp at h
  | n, x :: as, y :: bs, i, a, b, h, ha, hb => by
    simp only [okDs, Bool.and_eq_true] at h
    cases i with
    | zero => simp at ha hb; subst ha hb; exact h.1
    | succ i => exact okDs_get h.2 (by simpa using ha) (by simpa using hb)
theorem eqDs_all : ∀ {as bs : List D} (e : Nat → Bool), as.length = bs.length → (∀ i a b, as[i]? = some a → bs[i]? = some b → e i = eqD a b) → (List.range as.length).all e = eqDs as bs
  | [], [], _, _, _ => rfl
  | a :: as, b :: bs, e, hl, he => by
    rw [List.length_cons, List.range_succ_eq_map, List.all_cons, List.all_map, he 0 a b rfl rfl]
    have := eqDs_all (as := as) (bs := bs) (e ∘ Nat.succ) (by simpa using hl) fun i x y hx hy => he (i + 1) x y (by simpa using hx) (by simpa using hy)
    rw [this]; rfl
  | [], _ :: _, _, h, _ => by simp at h
  | _ :: _, [], _, h, _ => by simp at h
theorem eqDs_off {as bs : List D} (h : as.length ≠ bs.length) : eqDs as bs = false := by
  cases e : eqDs as bs with
  | false => rfl
  | true => exact absurd (eqDs_len e) h

section
variable {N : Addr → Prop} {s : Shared}

mutual
theorem rep_one : ∀ (n : Nat) (a b : D) (v : Value), okD n a b = true → Rep N s.heap a v → Rep N s.heap b v → eqD a b = true
  | n, .int a, b, v, ok, x, y => by
    cases b <;> simp [okD] at ok
    obtain ⟨t, rfl⟩ := x.int_inv
    obtain ⟨t', e⟩ := y.int_inv
    cases e; simp [eqD]
  | n, .bytes a, b, v, ok, x, y => by
    cases b <;> simp [okD] at ok
    obtain ⟨t, rfl⟩ := x.bytes_inv
    obtain ⟨t', e⟩ := y.bytes_inv
    simp only [Value.bytes.injEq] at e
    have := congrArg Array.toList e.1
    simp at this
    subst this; simp [eqD]
  | n + 1, .list as, b, v, ok, x, y => by
    cases b <;> simp [okD] at ok
    obtain ⟨l, vs, rfl, _, ⟨o, ho, _, _, hd⟩, r⟩ := x.list_inv
    obtain ⟨l2, vs2, e, _, ⟨o2, ho2, _, _, hd2⟩, r2⟩ := y.list_inv
    cases e
    rw [ho] at ho2; cases ho2
    rw [hd] at hd2
    have e := (Data.seq.inj hd2).1
    have := congrArg Array.toList e
    simp at this; subst this
    simp only [eqD]
    exact reps_one n as _ vs ok r r2
  | n + 1, .tuple as, b, v, ok, x, y => by
    cases b <;> simp [okD] at ok
    obtain ⟨l, vs, rfl, _, ⟨o, ho, _, _, hd⟩, r⟩ := x.tuple_inv
    obtain ⟨l2, vs2, e, _, ⟨o2, ho2, _, _, hd2⟩, r2⟩ := y.tuple_inv
    cases e
    rw [ho] at ho2; cases ho2
    rw [hd] at hd2
    have e := (Data.seq.inj hd2).1
    have := congrArg Array.toList e
    simp at this; subst this
    simp only [eqD]
    exact reps_one n as _ vs ok r r2
  | 0, .list as, b, v, ok, x, y => by cases b <;> simp [okD] at ok
  | 0, .tuple as, b, v, ok, x, y => by cases b <;> simp [okD] at ok
  | n, .undef, b, v, ok, x, y => by cases b <;> simp [okD] at ok
  | n, .val _, b, v, ok, x, y => by cases b <;> simp [okD] at ok
  | n, .own _ _, b, v, ok, x, y => by cases b <;> simp [okD] at ok
theorem reps_one : ∀ (n : Nat) (as bs : List D) (vs : List Value), okDs n as bs = true → Reps N s.heap as vs → Reps N s.heap bs vs → eqDs as bs = true
  | n, [], bs, vs, ok, x, y => by
    simp only [Reps] at x; subst x
    cases bs with
    | nil => rfl
    | cons b bs => simp [Reps] at y
  | n, a :: as, bs, vs, ok, x, y => by
    simp only [Reps] at x
    obtain ⟨v, r, rfl, x1, x2⟩ := x
    cases bs with
    | nil => simp [Reps] at y
    | cons b bs =>
      simp only [okDs, Bool.and_eq_true] at ok
      simp only [Reps] at y
      obtain ⟨v', r', e, y1, y2⟩ := y
      cases e
      simp only [eqDs, Bool.and_eq_true]
      exact ⟨rep_one n a b v ok.1 x1 y1, reps_one n as bs r ok.2 x2 y2⟩
end

theorem eqAt_bytes {A : Around} (a b : List UInt8) (t u : Tok) : EqAt A s (.bytes a.toArray t) (.bytes b.toArray u) (a == b) := fun prog w E Q h => by
  unfold eqBool
  refine wpAny_holding ?_
  refine wpAny_ite_split (fun hab => ?_) (fun _ => ?_)
  · have e := eq_of_beq hab
    simp only [Value.bytes.injEq] at e
    have := congrArg Array.toList e.1
    simp at this
    subst this
    exact wpAny_bind (wpAny_rule (wpAny_pure (by simpa using h)))
  · exact wpAny_bind (wpAny_mono (eq_bytes (Q := fun v s' => v = .bool (a == b) ∧ s' = s) ⟨rfl, rfl⟩) (fun v s' hv => by obtain ⟨rfl, rfl⟩ := hv; exact wpAny_truthy_bool h) fun _ _ x => x)

theorem eq_at : ∀ (n : Nat) {A : Around} {a b : D} {v u : Value}, A.units + n < cLine → okD n a b = true → Rep N s.heap a v → Rep N s.heap b u → EqAt A s v u (eqD a b) := by
  intro n
  induction n with
  | zero =>
    intro A a b v u hu ok x y
    cases a <;> cases b <;> simp [okD] at ok
    · obtain ⟨t, rfl⟩ := x.int_inv
      obtain ⟨t', rfl⟩ := y.int_inv
      exact EqAt.int_int _ _ _ _
    · obtain ⟨t, rfl⟩ := x.bytes_inv
      obtain ⟨t', rfl⟩ := y.bytes_inv
      exact eqAt_bytes _ _ _ _
  | succ n ih =>
    intro A a b v u hu ok x y
    cases a <;> cases b <;> simp only [okD] at ok <;> (try exact absurd ok (by decide))
    · obtain ⟨t, rfl⟩ := x.int_inv
      obtain ⟨t', rfl⟩ := y.int_inv
      exact EqAt.int_int _ _ _ _
    · obtain ⟨t, rfl⟩ := x.bytes_inv
      obtain ⟨t', rfl⟩ := y.bytes_inv
      exact eqAt_bytes _ _ _ _
    · rename_i as bs
      obtain ⟨l, vs, rfl, na, hl, r⟩ := x.list_inv
      obtain ⟨l2, vs2, rfl, nb, hl2, r2⟩ := y.list_inv
      by_cases hne : l = l2
      · subst hne
        rw [rep_one (n + 1) (.list as) (.list bs) (.ref l) (by simpa [okD] using ok) x y]
        exact EqAt.same _
      · refine EqAt.of_refs hne ?_
        by_cases hlen : as.length = bs.length
        · have hv := r.length
          have hv2 := r2.length
          have key : ∀ j (h1 : j < vs.toArray.size) (h2 : j < vs2.toArray.size), EqAt A.in1 s vs.toArray[j] vs2.toArray[j] ((fun j => (as[j]?.bind fun a => bs[j]?.map (eqD a)).getD false) j) := fun j h1 h2 => by
            have h1' : j < vs.length := by simpa using h1
            have h2' : j < vs2.length := by simpa using h2
            obtain ⟨a, ha, ra⟩ := r.at (i := j) (v := vs[j]) (by simp [h1'])
            obtain ⟨b, hb, rb⟩ := r2.at (i := j) (v := vs2[j]) (by simp [h2'])
            simp only [ha, hb, Option.bind_some, Option.map_some, Option.getD_some, List.getElem_toArray]
            exact ih (show A.units + 1 + n < cLine by omega) (okDs_get ok ha hb) ra rb
          have := RcAt.lists hl hl2 (by simp [hv, hv2, hlen]) (by omega) key
          rw [show vs.toArray.size = as.length by simpa using hv] at this
          rw [eqDs_all _ hlen fun i a b ha hb => by simp [ha, hb]] at this
          simpa [eqD] using this
        · have : eqD (.list as) (.list bs) = false := by simp [eqD, eqDs_off hlen]
          rw [this]
          exact RcAt.lists_lengths hl hl2 (by simp [r.length, r2.length, hlen]) (by omega)
    · rename_i as bs
      obtain ⟨l, vs, rfl, na, hl, r⟩ := x.tuple_inv
      obtain ⟨l2, vs2, rfl, nb, hl2, r2⟩ := y.tuple_inv
      by_cases hne : l = l2
      · subst hne
        rw [rep_one (n + 1) (.tuple as) (.tuple bs) (.ref l) (by simpa [okD] using ok) x y]
        exact EqAt.same _
      · refine EqAt.of_refs hne ?_
        have hv := r.length
        have hv2 := r2.length
        have key : ∀ j (h1 : j < vs.toArray.size) (h2 : j < vs2.toArray.size), EqAt A.in1 s vs.toArray[j] vs2.toArray[j] ((fun j => (as[j]?.bind fun a => bs[j]?.map (eqD a)).getD false) j) := fun j h1 h2 => by
          have h1' : j < vs.length := by simpa using h1
          have h2' : j < vs2.length := by simpa using h2
          obtain ⟨a, ha, ra⟩ := r.at (i := j) (v := vs[j]) (by simp [h1'])
          obtain ⟨b, hb, rb⟩ := r2.at (i := j) (v := vs2[j]) (by simp [h2'])
          simp only [ha, hb, Option.bind_some, Option.map_some, Option.getD_some, List.getElem_toArray]
          exact ih (show A.units + 1 + n < cLine by omega) (okDs_get ok ha hb) ra rb
        have := RcAt.tuples hl hl2 (by omega) key
        simp only [List.size_toArray, hv, hv2] at this
        by_cases hlen : as.length = bs.length
        · rw [← hlen, Nat.min_self, eqDs_all _ hlen fun i a b ha hb => by simp [ha, hb]] at this
          simpa [eqD] using this
        · have h0 : eqD (.tuple as) (.tuple bs) = false := by simp [eqD, eqDs_off hlen]
          rw [h0]
          have : (as.length == bs.length) = false := by simpa using hlen
          simp only [this, Bool.and_false] at *
          assumption

theorem keyAt {n : Nat} {A : Around} {as bs : List D} {vs vs2 : List Value} (hu : A.units + 1 + n < cLine) (ok : okDs n as bs = true) (r : Reps N s.heap as vs) (r2 : Reps N s.heap bs vs2) :
    ∀ j (h1 : j < vs.toArray.size) (h2 : j < vs2.toArray.size), EqAt A.in1 s vs.toArray[j] vs2.toArray[j] ((fun j => (as[j]?.bind fun a => bs[j]?.map (eqD a)).getD false) j) := fun j h1 h2 => by
  have h1' : j < vs.length := by simpa using h1
  have h2' : j < vs2.length := by simpa using h2
  obtain ⟨a, ha, ra⟩ := r.at (i := j) (v := vs[j]) (by simp [h1'])
  obtain ⟨b, hb, rb⟩ := r2.at (i := j) (v := vs2[j]) (by simp [h2'])
  simp only [ha, hb, Option.bind_some, Option.map_some, Option.getD_some, List.getElem_toArray]
  exact eq_at n hu (okDs_get ok ha hb) ra rb

theorem rcList {n : Nat} {A : Around} {as bs : List D} {v u : Value} (hu : A.units + 1 + n < cLine) (ok : okDs n as bs = true) (x : Rep N s.heap (.list as) v) (y : Rep N s.heap (.list bs) u) :
    RcAt A s v u (eqDs as bs) ∧ RcNeAt A s v u (!eqDs as bs) := by
  obtain ⟨l, vs, rfl, na, hl, r⟩ := x.list_inv
  obtain ⟨l2, vs2, rfl, nb, hl2, r2⟩ := y.list_inv
  have hv := r.length
  have hv2 := r2.length
  by_cases hlen : as.length = bs.length
  · have key := keyAt hu ok r r2
    have h1 := RcAt.lists hl hl2 (by simp [hv, hv2, hlen]) (by omega) key
    have h2 := RcNeAt.lists hl hl2 (by simp [hv, hv2, hlen]) (by omega) key
    rw [show vs.toArray.size = as.length by simpa using hv, eqDs_all _ hlen fun i a b ha hb => by simp [ha, hb]] at h1 h2
    exact ⟨h1, h2⟩
  · rw [eqDs_off hlen]
    have e : (vs.toArray.size != vs2.toArray.size) = true := by simp [hv, hv2, hlen]
    exact ⟨RcAt.lists_lengths hl hl2 e (by omega), RcNeAt.lists_lengths hl hl2 e (by omega)⟩
theorem rcTuple {n : Nat} {A : Around} {as bs : List D} {v u : Value} (hu : A.units + 1 + n < cLine) (ok : okDs n as bs = true) (x : Rep N s.heap (.tuple as) v) (y : Rep N s.heap (.tuple bs) u) :
    RcAt A s v u (eqDs as bs) ∧ RcNeAt A s v u (!eqDs as bs) := by
  obtain ⟨l, vs, rfl, na, hl, r⟩ := x.tuple_inv
  obtain ⟨l2, vs2, rfl, nb, hl2, r2⟩ := y.tuple_inv
  have hv := r.length
  have hv2 := r2.length
  have key := keyAt hu ok r r2
  have h1 := RcAt.tuples hl hl2 (by omega) key
  have h2 := RcNeAt.tuples hl hl2 (by omega) key
  simp only [List.size_toArray, hv, hv2] at h1 h2
  by_cases hlen : as.length = bs.length
  · rw [← hlen, Nat.min_self, eqDs_all _ hlen fun i a b ha hb => by simp [ha, hb]] at h1 h2
    exact ⟨by simpa using h1, by simpa using h2⟩
  · rw [eqDs_off hlen]
    have : (as.length == bs.length) = false := by simpa using hlen
    simp only [this, Bool.and_false] at h1 h2
    exact ⟨h1, h2⟩
end

section
variable {w : World} {k : Nat}
theorem Cmp.eqL {as bs : List D} {n : Nat} (ok : okDs n as bs = true) (hn : n < 100) : Cmp w k .Eq (.list as) (.list bs) (eqDs as bs) := .mk2 fun N A s E v u R G al x y => by
  show wpAny _ _ (richCompare .Eq v u) _ E s
  exact (rcList (n := n) (by have := R.2.1; show A.units + 1 + n < 9900; omega) ok x y).1 _ _ _ _ ⟨.val_mk, kRefl s⟩
theorem Cmp.neL {as bs : List D} {n : Nat} (ok : okDs n as bs = true) (hn : n < 100) : Cmp w k .NotEq (.list as) (.list bs) (!eqDs as bs) := .mk2 fun N A s E v u R G al x y => by
  show wpAny _ _ (richCompare .NotEq v u) _ E s
  exact (rcList (n := n) (by have := R.2.1; show A.units + 1 + n < 9900; omega) ok x y).2 _ _ _ _ ⟨.val_mk, kRefl s⟩
theorem Cmp.eqT {as bs : List D} {n : Nat} (ok : okDs n as bs = true) (hn : n < 100) : Cmp w k .Eq (.tuple as) (.tuple bs) (eqDs as bs) := .mk2 fun N A s E v u R G al x y => by
  show wpAny _ _ (richCompare .Eq v u) _ E s
  exact (rcTuple (n := n) (by have := R.2.1; show A.units + 1 + n < 9900; omega) ok x y).1 _ _ _ _ ⟨.val_mk, kRefl s⟩
theorem Cmp.neT {as bs : List D} {n : Nat} (ok : okDs n as bs = true) (hn : n < 100) : Cmp w k .NotEq (.tuple as) (.tuple bs) (!eqDs as bs) := .mk2 fun N A s E v u R G al x y => by
  show wpAny _ _ (richCompare .NotEq v u) _ E s
  exact (rcTuple (n := n) (by have := R.2.1; show A.units + 1 + n < 9900; omega) ok x y).2 _ _ _ _ ⟨.val_mk, kRefl s⟩
end

/-! ## rows of numbers, words, as data -/
abbrev encI (r : List Int) : D := .list (r.map .int)
abbrev encR (rs : List (List Int)) : D := .list (rs.map encI)
abbrev encB (bs : List (List UInt8)) : D := .list (bs.map .bytes)

theorem eqDs_ints : ∀ (a b : List Int), eqDs (a.map .int) (b.map .int) = (a == b)
  | [], [] => rfl
  | x :: a, y :: b => by simp [eqDs, eqD, eqDs_ints a b]
  | [], _ :: _ => rfl
  | _ :: _, [] => rfl
theorem okDs_ints (n : Nat) : ∀ (a b : List Int), okDs n (a.map .int) (b.map .int) = true
  | [], _ => by simp [okDs]
  | _ :: _, [] => by simp [okDs]
  | x :: a, y :: b => by simp [okDs, okD, okDs_ints n a b]
theorem eqDs_rows : ∀ (a b : List (List Int)), eqDs (a.map encI) (b.map encI) = (a == b)
  | [], [] => rfl
  | x :: a, y :: b => by simp [eqDs, eqD, encI, eqDs_ints, eqDs_rows a b]
  | [], _ :: _ => rfl
  | _ :: _, [] => rfl
theorem okDs_rows (n : Nat) : ∀ (a b : List (List Int)), okDs (n + 1) (a.map encI) (b.map encI) = true
  | [], _ => by simp [okDs]
  | _ :: _, [] => by simp [okDs]
  | x :: a, y :: b => by simp [okDs, okD, encI, okDs_ints, okDs_rows n a b]
end Mine
end

section
open PySem PySem.W PyProof.Rows PySem.Calls
set_option maxRecDepth 100000
namespace Mine

section
variable {w : World} {O : Addr → Prop} {k : Nat} {env : Env}
theorem Ex.whileN {test : Expr} {body : List Stmt} {pos : Pos} (ctx : Nat → Ctx) (m : Nat)
    (step : ∀ i, i < m → Tst w k env (ctx i) test true ∧ Exs w O k env (ctx i) body (.next (ctx (i + 1)))) (stop : Tst w k env (ctx m) test false) :
    Ex w O k env (ctx 0) (.While test body [] pos) (.next (ctx m)) := by
  have key : ∀ n c, c + n = m → WhileD w O k env test body n (ctx c) (.next (ctx m)) := by
    intro n
    induction n with
    | zero => intro c hc; rw [show c = m by omega]; exact .done stop
    | succ n ih => intro c hc; exact .step (step c (by omega)).1 (step c (by omega)).2 (ih (c + 1) (by omega))
  exact Ex.while (key m 0 (by omega))
theorem Ex.whileR {test : Expr} {body : List Stmt} {pos : Pos} {r : D} (ctx : Nat → Ctx) (m : Nat)
    (step : ∀ i, i < m → Tst w k env (ctx i) test true ∧ Exs w O k env (ctx i) body (.next (ctx (i + 1)))) (last : Tst w k env (ctx m) test true ∧ Exs w O k env (ctx m) body (.ret r)) :
    Ex w O k env (ctx 0) (.While test body [] pos) (.ret r) := by
  have key : ∀ n c, c + n = m → WhileD w O k env test body n (ctx c) (.ret r) := by
    intro n
    induction n with
    | zero => intro c hc; rw [show c = m by omega]; exact .ret last.1 last.2
    | succ n ih => intro c hc; exact .step (step c (by omega)).1 (step c (by omega)).2 (ih (c + 1) (by omega))
  exact Ex.while (key m 0 (by omega))

/-- a datum in another spelling -/
theorem Ev.eq {ρ e d d'} (x : Ev w k env ρ e d) (h : d = d') : Ev w k env ρ e d' := h ▸ x
theorem Tst.eq {ρ e b b'} (x : Tst w k env ρ e b) (h : b = b') : Tst w k env ρ e b' := h ▸ x
theorem Op.eq {t ds d d'} (x : Op w k t ds d) (h : d = d') : Op w k t ds d' := h ▸ x
end

/-- the contract of the def that bears the name x -/
def FnN (w : World) (k : Nat) (x : Str) (ds : List D) (d : D) : Prop := ∃ f, f ∈ allFns ∧ f.name = x ∧ Fn w k f ds d
theorem Fn.named {w k f ds d} {x : Str} (F : Fn w k f ds d) (hf : f ∈ allFns) (hn : f.name = x) : FnN w k x ds d := ⟨f, hf, hn, F⟩
theorem FnN.mono_k {w j k x ds d} (F : FnN w j x ds d) (h : j ≤ k) : FnN w k x ds d := let ⟨f, a, b, c⟩ := F; ⟨f, a, b, c.mono_k h⟩
theorem Ev.call {w : World} {k : Nat} {env : Env} {ρ : Ctx} {x : Str} {p : Pos} {e : Expr} {rest : List Expr} {pos : Pos} {ds : List D} {d : D} (ha : Evs w k env ρ (e :: rest) ds) (F : FnN w k x ds d)
    (hx : env.kindOf x = some .globalImplicit := by with_unfolding_all rfl) (hd : (x == ("__debug__" : Str)) = false := by decide) (he : starEach (e :: rest) env = (false, eval e env) :: starEach rest env := by with_unfolding_all rfl) :
    Ev w k env ρ (.Call (.Name x p) (e :: rest) [] pos) d := let ⟨_, a, b, c⟩ := F; Ev.call_fn c a b ha hx hd he

def fnIdx : List Nat := [10, 12, 13, 15, 16, 17, 18, 20, 21, 22, 24, 26, 27, 28, 29, 30, 31, 32, 33, 34, 35, 36, 37, 38]
theorem allFns_eq : allFns = fnIdx.map fnAt := rfl
theorem mem_fns {i : Nat} (h : i ∈ fnIdx) : fnAt i ∈ allFns := allFns_eq ▸ List.mem_map_of_mem h

theorem Fn.at {w k ds d} {i : Nat} {x : Str} (F : Fn w k (fnAt i) ds d) (hi : i ∈ fnIdx) (hn : (fnAt i).name = x) : FnN w k x ds d := F.named (mem_fns hi) hn
theorem free_type : Str.ofString "type" ∈ freeNames := by decide +kernel
theorem free_issubclass : Str.ofString "issubclass" ∈ freeNames := by decide +kernel
theorem free_isinstance : Str.ofString "isinstance" ∈ freeNames := by decide +kernel
theorem free_str : Str.ofString "str" ∈ freeNames := by decide +kernel
theorem free_bytes : Str.ofString "bytes" ∈ freeNames := by decide +kernel
theorem free_len : Str.ofString "len" ∈ freeNames := by decide +kernel
theorem free_range : Str.ofString "range" ∈ freeNames := by decide +kernel
theorem free_min : Str.ofString "min" ∈ freeNames := by decide +kernel
theorem free_max : Str.ofString "max" ∈ freeNames := by decide +kernel
theorem free_sum : Str.ofString "sum" ∈ freeNames := by decide +kernel
theorem free_abs : Str.ofString "abs" ∈ freeNames := by decide +kernel
theorem free_int : Str.ofString "int" ∈ freeNames := by decide +kernel
theorem free_tuple : Str.ofString "tuple" ∈ freeNames := by decide +kernel
theorem free_map : Str.ofString "map" ∈ freeNames := by decide +kernel
theorem free_enumerate : Str.ofString "enumerate" ∈ freeNames := by decide +kernel
theorem free_divmod : Str.ofString "divmod" ∈ freeNames := by decide +kernel
theorem boot_len : bootBuiltins (Str.ofString "len") = some (.builtin "len") := by decide +kernel
theorem boot_abs : bootBuiltins (Str.ofString "abs") = some (.builtin "abs") := by decide +kernel
theorem boot_sum : bootBuiltins (Str.ofString "sum") = some (.builtin "sum") := by decide +kernel
theorem boot_min : bootBuiltins (Str.ofString "min") = some (.builtin "min") := by decide +kernel
theorem boot_max : bootBuiltins (Str.ofString "max") = some (.builtin "max") := by decide +kernel
theorem boot_divmod : bootBuiltins (Str.ofString "divmod") = some (.builtin "divmod") := by decide +kernel
theorem boot_int : bootBuiltins (Str.ofString "int") = some (.type "int") := by decide +kernel
theorem boot_range : bootBuiltins (Str.ofString "range") = some (.type "range") := by decide +kernel
theorem boot_type : bootBuiltins (Str.ofString "type") = some (.type "type") := by decide +kernel
theorem boot_str : bootBuiltins (Str.ofString "str") = some (.type "str") := by decide +kernel
theorem boot_bytes : bootBuiltins (Str.ofString "bytes") = some (.type "bytes") := by decide +kernel
theorem boot_tuple : bootBuiltins (Str.ofString "tuple") = some (.type "tuple") := by decide +kernel
theorem boot_map : bootBuiltins (Str.ofString "map") = some (.type "map") := by decide +kernel
theorem boot_issubclass : bootBuiltins (Str.ofString "issubclass") = some (.builtin "issubclass") := by decide +kernel
theorem boot_isinstance : bootBuiltins (Str.ofString "isinstance") = some (.builtin "isinstance") := by decide +kernel
theorem all1 {α : Type} {P : List α → Prop} (h : ∀ x, P [x]) : ∀ vs : List α, vs.length = 1 → P vs
  | [x], _ => h x
theorem all2 {α : Type} {P : List α → Prop} (h : ∀ x y, P [x, y]) : ∀ vs : List α, vs.length = 2 → P vs
  | [x, y], _ => h x y
theorem all4 {α : Type} {P : List α → Prop} (h : ∀ x y z t, P [x, y, z, t]) : ∀ vs : List α, vs.length = 4 → P vs
  | [x, y, z, t], _ => h x y z t
theorem all11 {α : Type} {P : List α → List α → Prop} (h : ∀ x y, P [x] [y]) : ∀ us vs : List α, us.length = 1 → vs.length = 1 → P us vs
  | [x], [y], _, _ => h x y
end Mine
end

section
open PySem PySem.W PyProof.Rows PySem.Calls
set_option maxRecDepth 100000
namespace Mine
open Builtin
theorem slot_bytes_rfind : _root_.PySem.Slot "bytes" "rfind" "bytes.rfind" :=
  .of (owner := "bytes") (n := "rfind") (by rw [typeLookup_type, builtinLookup_eq_fast]; kernel_rfl) (by decide +kernel) (by decide +kernel) (by decide +kernel)
    (by first | exact .inl (by decide +kernel) | exact .inr (by decide +kernel)) (by rw [isSubtype_type]; kernel_rfl)
theorem type_bytes_rfind : typeOf (.builtin "bytes.rfind") = pure (.type "method_descriptor") := by show builtinType _ = _; rw [builtinType_eq_fast]; kernel_rfl
theorem entry_bytes_rfind : entryFor table "bytes.rfind" = some Builtin.«bytes.rfind» := by first | exact entryFor_of_fast (by kernel_rfl) | exact entryFor_of_tree (by kernel_rfl)
theorem args_bytes_rfind_2 (a b : Value) : argsOk "bytes.rfind" ⟨[a, b], []⟩ := by
  unfold argsOk; rw [signature?_of (id := "bytes.rfind") (n := ['d', 'n', 'i', 'f', 'r']) (o := ['s', 'e', 't', 'y', 'b']) (by kernel_rfl) FB.owner_bytes]; kernel_rfl
theorem BMeth.rfind : BMeth (Str.ofString "rfind") "bytes.rfind" := ⟨slot_bytes_rfind.lookup, type_bytes_rfind⟩
theorem slot_bytes_count : _root_.PySem.Slot "bytes" "count" "bytes.count" :=
  .of (owner := "bytes") (n := "count") (by rw [typeLookup_type, builtinLookup_eq_fast]; kernel_rfl) (by decide +kernel) (by decide +kernel) (by decide +kernel)
    (by first | exact .inl (by decide +kernel) | exact .inr (by decide +kernel)) (by rw [isSubtype_type]; kernel_rfl)
theorem type_bytes_count : typeOf (.builtin "bytes.count") = pure (.type "method_descriptor") := by show builtinType _ = _; rw [builtinType_eq_fast]; kernel_rfl
theorem entry_bytes_count : entryFor table "bytes.count" = some Builtin.«bytes.count» := by first | exact entryFor_of_fast (by kernel_rfl) | exact entryFor_of_tree (by kernel_rfl)
theorem args_bytes_count_2 (a b : Value) : argsOk "bytes.count" ⟨[a, b], []⟩ := by
  unfold argsOk; rw [signature?_of (id := "bytes.count") (n := ['t', 'n', 'u', 'o', 'c']) (o := ['s', 'e', 't', 'y', 'b']) (by kernel_rfl) FB.owner_bytes]; kernel_rfl
theorem BMeth.count : BMeth (Str.ofString "count") "bytes.count" := ⟨slot_bytes_count.lookup, type_bytes_count⟩
theorem slot_bytes_rstrip : _root_.PySem.Slot "bytes" "rstrip" "bytes.rstrip" :=
  .of (owner := "bytes") (n := "rstrip") (by rw [typeLookup_type, builtinLookup_eq_fast]; kernel_rfl) (by decide +kernel) (by decide +kernel) (by decide +kernel)
    (by first | exact .inl (by decide +kernel) | exact .inr (by decide +kernel)) (by rw [isSubtype_type]; kernel_rfl)
theorem type_bytes_rstrip : typeOf (.builtin "bytes.rstrip") = pure (.type "method_descriptor") := by show builtinType _ = _; rw [builtinType_eq_fast]; kernel_rfl
theorem entry_bytes_rstrip : entryFor table "bytes.rstrip" = some Builtin.«bytes.rstrip» := by first | exact entryFor_of_fast (by kernel_rfl) | exact entryFor_of_tree (by kernel_rfl)
theorem args_bytes_rstrip_2 (a b : Value) : argsOk "bytes.rstrip" ⟨[a, b], []⟩ := by
  unfold argsOk; rw [signature?_of (id := "bytes.rstrip") (n := ['p', 'i', 'r', 't', 's', 'r']) (o := ['s', 'e', 't', 'y', 'b']) (by kernel_rfl) FB.owner_bytes]; kernel_rfl
theorem BMeth.rstrip : BMeth (Str.ofString "rstrip") "bytes.rstrip" := ⟨slot_bytes_rstrip.lookup, type_bytes_rstrip⟩
theorem slot_bytes_split : _root_.PySem.Slot "bytes" "split" "bytes.split" :=
  .of (owner := "bytes") (n := "split") (by rw [typeLookup_type, builtinLookup_eq_fast]; kernel_rfl) (by decide +kernel) (by decide +kernel) (by decide +kernel)
    (by first | exact .inl (by decide +kernel) | exact .inr (by decide +kernel)) (by rw [isSubtype_type]; kernel_rfl)
theorem type_bytes_split : typeOf (.builtin "bytes.split") = pure (.type "method_descriptor") := by show builtinType _ = _; rw [builtinType_eq_fast]; kernel_rfl
theorem entry_bytes_split : entryFor table "bytes.split" = some Builtin.«bytes.split» := by first | exact entryFor_of_fast (by kernel_rfl) | exact entryFor_of_tree (by kernel_rfl)
theorem args_bytes_split_2 (a b : Value) : argsOk "bytes.split" ⟨[a, b], []⟩ := by
  unfold argsOk; rw [signature?_of (id := "bytes.split") (n := ['t', 'i', 'l', 'p', 's']) (o := ['s', 'e', 't', 'y', 'b']) (by kernel_rfl) FB.owner_bytes]; kernel_rfl
theorem BMeth.split : BMeth (Str.ofString "split") "bytes.split" := ⟨slot_bytes_split.lookup, type_bytes_split⟩
theorem slot_bytes_join : _root_.PySem.Slot "bytes" "join" "bytes.join" :=
  .of (owner := "bytes") (n := "join") (by rw [typeLookup_type, builtinLookup_eq_fast]; kernel_rfl) (by decide +kernel) (by decide +kernel) (by decide +kernel)
    (by first | exact .inl (by decide +kernel) | exact .inr (by decide +kernel)) (by rw [isSubtype_type]; kernel_rfl)
theorem type_bytes_join : typeOf (.builtin "bytes.join") = pure (.type "method_descriptor") := by show builtinType _ = _; rw [builtinType_eq_fast]; kernel_rfl
theorem entry_bytes_join : entryFor table "bytes.join" = some Builtin.«bytes.join» := by first | exact entryFor_of_fast (by kernel_rfl) | exact entryFor_of_tree (by kernel_rfl)
theorem args_bytes_join_2 (a b : Value) : argsOk "bytes.join" ⟨[a, b], []⟩ := by
  unfold argsOk; rw [signature?_of (id := "bytes.join") (n := ['n', 'i', 'o', 'j']) (o := ['s', 'e', 't', 'y', 'b']) (by kernel_rfl) FB.owner_bytes]; kernel_rfl
theorem BMeth.join : BMeth (Str.ofString "join") "bytes.join" := ⟨slot_bytes_join.lookup, type_bytes_join⟩
theorem BMeth.startswith : BMeth (Str.ofString "startswith") "bytes.startswith" := ⟨FB.slot_bytes_startswith.lookup, FB.type_bytes_startswith⟩
theorem BMeth.endswith : BMeth (Str.ofString "endswith") "bytes.endswith" := ⟨FB.slot_bytes_endswith.lookup, FB.type_bytes_endswith⟩

theorem searchArgs_eq (name : String) (b : Array UInt8) (c : UInt8) (t u : Tok) : Bytes.searchArgs .bytes name ⟨[.bytes b t, .bytes #[c] u], []⟩
    = pure (b, #[c], if b.size < 1 then Option.none else some (0, b.size)) := by
  have h1 (id : String) : selfAndSome id name 1 3 ⟨[.bytes b t, .bytes #[c] u], []⟩ = pure (.bytes b t, [.bytes #[c] u]) := rfl
  have h2 (i : Nat) : Bytes.bound? ([Value.bytes #[c] u][i + 1]?) = pure Option.none := rfl
  have h3 : Bytes.payload (.bytes b t) = pure b := rfl
  have h4 : Bytes.window b.size Option.none Option.none = (0, (b.size : Int)) := by
    simp [Bytes.window, show ¬ ((b.size : Int) < 0) by omega]
  unfold Bytes.searchArgs
  simp only [h1, pure_bind, h2 0, h2 1, h3, List.headD_cons, KBy.buffer_eq, h4]
  have h5 : ((b.size : Int) - 0 < ((#[c] : Array UInt8).size : Int)) ↔ b.size < 1 := by
    show ((b.size : Int) - 0 < (1 : Int)) ↔ b.size < 1
    omega
  simp only [h5]
  rfl

/-! ### plain laws of one-byte search -/
/-- the place of the last `c`, or -1 -/
def rfindB (c : UInt8) (b : List UInt8) : Int := ((b.reverse.dropWhile (· != c)).length : Int) - 1

theorem take_succ' {α : Type} {b : List α} {n : Nat} (h : n < b.length) : b.take (n + 1) = b.take n ++ [b[n]] := by
  rw [List.take_add_one, List.getElem?_eq_getElem h]; rfl

theorem extract_sub (b : List UInt8) (m n : Nat) : b.toArray.extract m n = ((b.take n).drop m).toArray := by
  rw [List.extract_toArray, List.extract_eq_take_drop, List.drop_take]
theorem extract_one {b : List UInt8} {c : UInt8} {n : Nat} (h : n < b.length) : (b.toArray.extract n (n + 1) == #[c]) = (b[n] == c) := by
  have : b.toArray.extract n (n + 1) = #[b[n]] := by
    rw [List.extract_toArray, List.extract_eq_take_drop, List.drop_eq_getElem_cons h, Nat.add_sub_cancel_left]; rfl
  rw [this, Bool.eq_iff_iff, beq_iff_eq, beq_iff_eq]; simp

theorem rfind_range (b : List UInt8) (c : UInt8) : ∀ n, n ≤ b.length → ((((List.range n).map (· + 0)).reverse.find? fun i => b.toArray.extract i (i + 1) == #[c]).elim (-1 : Int) (fun i => (i : Int))) = rfindB c (b.take n)
  | 0, _ => by simp [rfindB]
  | n + 1, h => by
    have ih := rfind_range b c n (by omega)
    rw [List.range_succ, List.map_append, List.reverse_append, take_succ' (by omega)]
    simp only [List.map_cons, List.map_nil, List.reverse_cons, List.reverse_nil, List.nil_append, List.cons_append, List.find?_cons, Nat.add_zero]
    rw [extract_one (by omega)]
    unfold rfindB
    rw [List.reverse_append]
    simp only [List.reverse_cons, List.reverse_nil, List.nil_append, List.cons_append, List.dropWhile_cons]
    by_cases hc : b[n] = c
    · simp [hc]; omega
    · have h1 : (b[n] == c) = false := by simpa using hc
      have h2 : (b[n] != c) = true := by simpa using hc
      rw [h1]; simp only [h2, if_true]
      simpa [rfindB] using ih

theorem rfind?_eq (b : List UInt8) (c : UInt8) : ((if b.toArray.size < 1 then Option.none else Bytes.rfind? b.toArray #[c] 0 b.toArray.size).elim (-1 : Int) (fun i => (i : Int))) = rfindB c b := by
  have h := rfind_range b c b.length (Nat.le_refl _)
  rw [List.take_length] at h
  split
  · rename_i h0
    have : b = [] := by simpa using h0
    subst this; simp [rfindB]
  · rw [← h]
    unfold Bytes.rfind?
    simp

theorem gives_rfind (b : List UInt8) (c : UInt8) (t u : Tok) : Gives («bytes.rfind» ⟨[.bytes b.toArray t, .bytes #[c] u], []⟩) (.int (rfindB c b)) := by
  refine .of_wp fun M A E s Q hq => ?_
  rw [← rfind?_eq] at hq
  show wpAny M A (Bytes.searchArgs .bytes "rfind" _ >>= _) _ E s
  refine wpAny_bind (wpAny_of_eq (searchArgs_eq _ _ _ _ _) ?_)
  by_cases h : b.toArray.size < 1
  · rw [if_pos h] at hq
    simp only [if_pos h, Option.bind_none]
    exact wpAny_bind (wpAny_rule (wpAny_bind (wpAny_mkInt (wpAny_pure ⟨_, rfl, hq⟩))))
  · rw [if_neg h] at hq
    simp only [if_neg h, Option.bind_some, if_true]
    cases h' : Bytes.rfind? b.toArray #[c] 0 b.toArray.size with
    | none => rw [h'] at hq; exact wpAny_bind (wpAny_rule (wpAny_bind (wpAny_mkInt (wpAny_pure ⟨_, rfl, hq⟩))))
    | some i => rw [h'] at hq; exact wpAny_bind (wpAny_mkInt (wpAny_pure ⟨_, rfl, hq⟩))

/-! ### splitting -/
def splitB (c : UInt8) : List UInt8 → List (List UInt8)
  | [] => [[]]
  | x :: r => if x = c then [] :: splitB c r else match splitB c r with
    | [] => [[x]]
    | h :: t => (x :: h) :: t

theorem splitB_snoc (c : UInt8) : ∀ X, ∃ P l, splitB c X = P ++ [l] ∧ (∀ x, x ≠ c → splitB c (X ++ [x]) = P ++ [l ++ [x]]) ∧ splitB c (X ++ [c]) = P ++ [l, []]
  | [] => ⟨[], [], rfl, fun x hx => by simp [splitB, hx], by simp [splitB]⟩
  | y :: r => by
    obtain ⟨P, l, h1, h2, h3⟩ := splitB_snoc c r
    by_cases hy : y = c
    · refine ⟨[] :: P, l, by simp [splitB, hy, h1], fun x hx => by simp [splitB, hy, h2 x hx], by simp [splitB, hy, h3]⟩
    · cases P with
      | nil => exact ⟨[], y :: l, by simp [splitB, hy, h1], fun x hx => by simp [splitB, hy, h2 x hx], by simp [splitB, hy, h3]⟩
      | cons p P => exact ⟨(y :: p) :: P, l, by simp [splitB, hy, h1], fun x hx => by simp [splitB, hy, h2 x hx], by simp [splitB, hy, h3]⟩

def occStep (b : List UInt8) (c : UInt8) (acc : List Nat × Nat) (i : Nat) : List Nat × Nat :=
  if i ≥ acc.2 && b.toArray.extract i (i + 1) == #[c] then (i :: acc.1, i + 1) else acc
def btwStep (b : List UInt8) : Array (Array UInt8) × Nat → Nat → Array (Array UInt8) × Nat := fun (parts, last) p => (parts.push (b.toArray.extract last p), p + 1)

theorem occ_inv (b : List UInt8) (c : UInt8) : ∀ n, n ≤ b.length → ∃ L m parts, ((List.range n).map (· + 0)).foldl (occStep b c) ([], 0) = (L, m) ∧ m ≤ n ∧ L.length = (b.take n).count c
    ∧ L.reverse.foldl (btwStep b) (#[], 0) = (parts, m) ∧ parts.toList.map (·.toList) ++ [(b.take n).drop m] = splitB c (b.take n)
  | 0, _ => ⟨[], 0, #[], rfl, Nat.le_refl _, by simp, rfl, by simp [splitB]⟩
  | n + 1, h => by
    obtain ⟨L, m, parts, h1, h2, h3, h4, h5⟩ := occ_inv b c n (by omega)
    obtain ⟨P, l, s1, s2, s3⟩ := splitB_snoc c (b.take n)
    rw [List.range_succ, List.map_append, List.foldl_append, h1]
    rw [s1] at h5
    obtain ⟨e1, e2⟩ := List.append_inj' h5 rfl
    simp only [List.map_cons, List.map_nil, List.foldl_cons, List.foldl_nil, Nat.add_zero]
    unfold occStep
    rw [extract_one (by omega), take_succ' (by omega)]
    have hd : decide (n ≥ m) = true := by simpa using h2
    simp only [hd, Bool.true_and]
    by_cases hc : b[n] = c
    · simp only [hc, beq_self_eq_true, if_true]
      refine ⟨n :: L, n + 1, parts.push (b.toArray.extract m n), rfl, Nat.le_refl _, by simp [h3], ?_, ?_⟩
      · rw [List.reverse_cons, List.foldl_append, h4]; rfl
      · rw [s3]
        have : ((b.take n ++ [c]).drop (n + 1)) = [] := List.drop_eq_nil_of_le (by simp; omega)
        rw [this, Array.toList_push, List.map_append, e1, List.map_singleton, extract_sub]
        simp only [List.cons.injEq, and_true] at e2
        rw [e2]; simp
    · have h0 : (b[n] == c) = false := by simpa using hc
      simp only [h0, Bool.false_eq_true, if_false]
      refine ⟨L, m, parts, rfl, by omega, ?_, h4, ?_⟩
      · rw [List.count_append, h3]; simp [hc]
      · rw [s2 _ hc, List.drop_append_of_le_length (by simp; omega), e1]
        simp only [List.cons.injEq, and_true] at e2
        rw [e2]

theorem occ_eq (b : List UInt8) (c : UInt8) : Bytes.occurrences b.toArray #[c] 0 b.toArray.size = (((List.range b.length).map (· + 0)).foldl (occStep b c) ([], 0)).1.reverse := by
  unfold Bytes.occurrences
  rw [show b.toArray.size + 1 - (0 + (#[c] : Array UInt8).size) = b.length by simp]
  rfl
theorem occ_len (b : List UInt8) (c : UInt8) : (Bytes.occurrences b.toArray #[c] 0 b.toArray.size).length = b.count c := by
  obtain ⟨L, m, parts, h1, h2, h3, h4, h5⟩ := occ_inv b c b.length (Nat.le_refl _)
  rw [occ_eq, h1, List.length_reverse, h3, List.take_length]
theorem btw_eq (b : List UInt8) (c : UInt8) : (Bytes.between b.toArray 1 (Bytes.occurrences b.toArray #[c] 0 b.toArray.size)) = (splitB c b).map (·.toArray) := by
  obtain ⟨L, m, parts, h1, h2, h3, h4, h5⟩ := occ_inv b c b.length (Nat.le_refl _)
  rw [occ_eq, h1]
  have e : Bytes.between b.toArray 1 L.reverse = (((L.reverse.foldl (btwStep b) (#[], 0)).1).push (b.toArray.extract (L.reverse.foldl (btwStep b) (#[], 0)).2 b.toArray.size)).toList := rfl
  rw [e, h4, List.take_length] at *
  rw [← h5, Array.toList_push, extract_sub]
  simp [Function.comp_def]

theorem gives_count (b : List UInt8) (c : UInt8) (t u : Tok) : Gives («bytes.count» ⟨[.bytes b.toArray t, .bytes #[c] u], []⟩) (.int (b.count c)) := by
  refine .of_wp fun M A E s Q hq => ?_
  show wpAny M A (Bytes.searchArgs .bytes "count" _ >>= _) _ E s
  refine wpAny_bind (wpAny_of_eq (searchArgs_eq _ _ _ _ _) ?_)
  by_cases h : b.toArray.size < 1
  · simp only [if_pos h]
    have : b = [] := by simpa using h
    subst this
    exact wpAny_bind (wpAny_mkInt (wpAny_pure ⟨_, rfl, hq⟩))
  · simp only [if_neg h]
    rw [occ_len]
    exact wpAny_bind (wpAny_mkInt (wpAny_pure ⟨_, rfl, hq⟩))
end Mine
end

section
open PySem PySem.W PyProof.Rows PySem.Calls
set_option maxRecDepth 100000
namespace Mine
open Builtin

def startsB (c : UInt8) (b : List UInt8) : Bool := b.head? == some c
def endsB (c : UInt8) (b : List UInt8) : Bool := b.getLast? == some c
def rstripB (c : UInt8) (b : List UInt8) : List UInt8 := (b.reverse.dropWhile (· == c)).reverse

theorem isInst_bytes_tuple (b : Array UInt8) (t : Tok) : isInstance (.bytes b t) (.type "tuple") = pure false := by
  have e : isInstance (.bytes b t) (.type "tuple") = isSubtype (.type "bytes") (.type "tuple") := rfl
  rw [e, PySem.F.sub_bytes_tuple]

theorem window_all (n : Nat) : Bytes.window n Option.none Option.none = (0, (n : Int)) := by
  simp [Bytes.window, show ¬ ((n : Int) < 0) by omega]

theorem gives_tail (name : String) (e : Bool) (b : List UInt8) (c : UInt8) (t u : Tok) :
    Gives (Bytes.tailMatchM .bytes name e ⟨[.bytes b.toArray t, .bytes #[c] u], []⟩) (.val (.bool (if e then endsB c b else startsB c b))) := by
  refine .of_wp fun M A E s Q hq => ?_
  have h1 (id : String) : selfAndSome id name 1 3 ⟨[.bytes b.toArray t, .bytes #[c] u], []⟩ = pure (.bytes b.toArray t, [.bytes #[c] u]) := rfl
  have h2 (i : Nat) : Bytes.bound? ([Value.bytes #[c] u][i + 1]?) = pure Option.none := rfl
  have h3 : Bytes.payload (.bytes b.toArray t) = pure b.toArray := rfl
  unfold Bytes.tailMatchM
  simp only [h1, pure_bind, h2 0, h2 1, h3, List.headD_cons, KBy.buffer_eq, window_all, isInst_bytes_tuple, Bool.false_eq_true, if_false]
  refine wpAny_pure ⟨_, rfl, ?_⟩
  have e1 : (if (b.toArray.size : Int) - 0 < ((#[c] : Array UInt8).size : Int) then false else if e = true then b.toArray.extract ((b.toArray.size : Int).toNat - (#[c] : Array UInt8).size) (b.toArray.size : Int).toNat == #[c] else b.toArray.extract (0 : Int).toNat ((0 : Int).toNat + (#[c] : Array UInt8).size) == #[c])
      = if e then endsB c b else startsB c b := by
    have e2 : (#[c] : Array UInt8).size = 1 := rfl
    rw [e2]
    by_cases hb : b = []
    · subst hb; cases e <;> simp [endsB, startsB]
    · have hl : 0 < b.length := List.length_pos_iff.2 hb
      rw [if_neg (by simp; omega)]
      cases e
      · simp only [Bool.false_eq_true, if_false]
        have := extract_one (b := b) (c := c) (n := 0) hl
        simp only [Int.toNat_zero, Nat.zero_add] at this ⊢
        rw [this, startsB, List.head?_eq_getElem?, List.getElem?_eq_getElem hl]
        simp [Bool.eq_iff_iff]
      · simp only [if_true, Int.toNat_natCast, List.size_toArray]
        have := extract_one (b := b) (c := c) (n := b.length - 1) (by omega)
        rw [show b.length - 1 + 1 = b.length by omega] at this
        rw [this, endsB, List.getLast?_eq_getElem?, List.getElem?_eq_getElem (by omega)]
        simp [Bool.eq_iff_iff]
  rw [e1]
  exact hq
theorem gives_starts (b : List UInt8) (c : UInt8) (t u : Tok) : Gives («bytes.startswith» ⟨[.bytes b.toArray t, .bytes #[c] u], []⟩) (.val (.bool (startsB c b))) := gives_tail "startswith" false b c t u
theorem gives_ends (b : List UInt8) (c : UInt8) (t u : Tok) : Gives («bytes.endswith» ⟨[.bytes b.toArray t, .bytes #[c] u], []⟩) (.val (.bool (endsB c b))) := gives_tail "endswith" true b c t u

theorem wp_rstrip (b : List UInt8) (c : UInt8) (t u : Tok) {M : Model} {A : Around} {E : Value → Shared → Prop} {s : Shared} {Q : Value → Shared → Prop} (hb : b.length ≤ 16777216)
    (hq : ∀ t' k, Q (.bytes (rstripB c b).toArray t') { s with toks := k }) :
    wpAny M A («bytes.rstrip» ⟨[.bytes b.toArray t, .bytes #[c] u], []⟩) (fun fin s' => ∃ v, fin = .done (.ret v) ∧ Q v s') E s := by
  have h1 (id name : String) : selfAndSome id name 0 1 ⟨[.bytes b.toArray t, .bytes #[c] u], []⟩ = pure (.bytes b.toArray t, [.bytes #[c] u]) := rfl
  have h3 : Bytes.payload (.bytes b.toArray t) = pure b.toArray := rfl
  have h4 (id : String) : Bytes.bytesLike id (.bytes #[c] u) = pure #[c] := by unfold Bytes.bytesLike; simp only [KBy.buffer_eq, pure_bind]
  have h5 : Bytes.Kind.same .bytes (.bytes b.toArray t) = pure (.bytes b.toArray t) := rfl
  show wpAny M A (Bytes.stripM .bytes "rstrip" false true _) _ E s
  unfold Bytes.stripM
  simp only [h1, pure_bind, h3, h4, Bool.false_eq_true, if_false, if_true, h5]
  have hc : (fun a => (#[c] : Array UInt8).contains a) = (fun a => a == c) := by funext a; rw [Bool.eq_iff_iff]; simp
  have e : ((b.toArray.toList.reverse.dropWhile (fun a => (#[c] : Array UInt8).contains a)).reverse) = rstripB c b := by rw [hc]; rfl
  rw [e]
  split
  · rename_i hl
    have : rstripB c b = b := by
      have h6 : (b.reverse.dropWhile (· == c)) = b.reverse := by
        refine (List.dropWhile_suffix _).eq_of_length ?_
        have := hl; simp [rstripB] at this; simpa using this
      unfold rstripB; rw [h6, List.reverse_reverse]
    rw [this] at hq
    exact wpAny_bind (wpAny_rule (wpAny_pure ⟨_, rfl, hq t s.toks⟩))
  · refine wpAny_bind (wpAny_mkBytes (wpAny_pure ⟨_, rfl, hq _ _⟩) ?_)
    rw [sizeLine_eq]
    have : (rstripB c b).length ≤ b.length := by
      unfold rstripB; rw [List.length_reverse]
      exact Nat.le_trans (List.dropWhile_suffix _).length_le (by simp)
    simp; omega

/-- a contract from a builtin's own steps -/
theorem call_wp {prog : Program} {w : World} {A : Around} {E : Value → Shared → Prop} {s : Shared} {T : String} {name : Str} {id : String} {B : Builtin} {self : Value} {rest : List Value} {Q : Value → Shared → Prop} (slot : PySem.Slot T name id) (hT : s.TypeIs self T)
    (entry : entryFor table id = some B) (args : argsOk id ⟨self :: rest, []⟩) (h : wpAny (model prog w) A.in1 (B ⟨self :: rest, []⟩) (fun fin s' => ∃ v, fin = .done (.ret v) ∧ Q v s') E s) :
    wpAny (model prog w) A (call (.builtin id) (self :: rest)) Q E s :=
  wpAny_call (codeAny_call_builtin slot.plain entry (slot.check _ _ _ _ _ _ _ _ hT args (wpAny_mono h (fun fin s' h' => by obtain ⟨v, rfl, hv⟩ := h'; exact hv) fun _ _ x => x)))

section
variable {w : World} {k : Nat}
theorem Op.rfind {b : List UInt8} {c : UInt8} : Op w k (fun vs => call (.builtin "bytes.rfind") vs) [.bytes b, .bytes [c]] (.int (rfindB c b)) := fun N A s E vs R G al r => by
  obtain ⟨v, u, rfl, x, y⟩ := r.two_inv
  obtain ⟨t, rfl⟩ := x.bytes_inv
  obtain ⟨t', rfl⟩ := y.bytes_inv
  exact call_meets slot_bytes_rfind (typeIs_bytes _ _ _) entry_bytes_rfind (args_bytes_rfind_2 _ _) (gives_rfind b c t t').meets ⟨.int_mk, kSame⟩
theorem Op.count {b : List UInt8} {c : UInt8} : Op w k (fun vs => call (.builtin "bytes.count") vs) [.bytes b, .bytes [c]] (.int (b.count c)) := fun N A s E vs R G al r => by
  obtain ⟨v, u, rfl, x, y⟩ := r.two_inv
  obtain ⟨t, rfl⟩ := x.bytes_inv
  obtain ⟨t', rfl⟩ := y.bytes_inv
  exact call_meets slot_bytes_count (typeIs_bytes _ _ _) entry_bytes_count (args_bytes_count_2 _ _) (gives_count b c t t').meets ⟨.int_mk, kSame⟩
theorem Op.starts {b : List UInt8} {c : UInt8} : Op w k (fun vs => call (.builtin "bytes.startswith") vs) [.bytes b, .bytes [c]] (.bool (startsB c b)) := fun N A s E vs R G al r => by
  obtain ⟨v, u, rfl, x, y⟩ := r.two_inv
  obtain ⟨t, rfl⟩ := x.bytes_inv
  obtain ⟨t', rfl⟩ := y.bytes_inv
  exact call_meets FB.slot_bytes_startswith (typeIs_bytes _ _ _) FB.entry_bytes_startswith (FB.args_bytes_startswith_2 _ _) (gives_starts b c t t').meets ⟨.val_mk, kRefl s⟩
theorem Op.ends {b : List UInt8} {c : UInt8} : Op w k (fun vs => call (.builtin "bytes.endswith") vs) [.bytes b, .bytes [c]] (.bool (endsB c b)) := fun N A s E vs R G al r => by
  obtain ⟨v, u, rfl, x, y⟩ := r.two_inv
  obtain ⟨t, rfl⟩ := x.bytes_inv
  obtain ⟨t', rfl⟩ := y.bytes_inv
  exact call_meets FB.slot_bytes_endswith (typeIs_bytes _ _ _) FB.entry_bytes_endswith (FB.args_bytes_endswith_2 _ _) (gives_ends b c t t').meets ⟨.val_mk, kRefl s⟩
theorem Op.rstrip {b : List UInt8} {c : UInt8} (hb : b.length ≤ 16777216) : Op w k (fun vs => call (.builtin "bytes.rstrip") vs) [.bytes b, .bytes [c]] (.bytes (rstripB c b)) := fun N A s E vs R G al r => by
  obtain ⟨v, u, rfl, x, y⟩ := r.two_inv
  obtain ⟨t, rfl⟩ := x.bytes_inv
  obtain ⟨t', rfl⟩ := y.bytes_inv
  exact call_wp slot_bytes_rstrip (typeIs_bytes _ _ _) entry_bytes_rstrip (args_bytes_rstrip_2 _ _) (wp_rstrip b c t t' hb fun t'' kk => ⟨.bytes_mk, kSame⟩)
end
end Mine
end

section
open PySem PySem.W PyProof.Rows PySem.Calls
set_option maxRecDepth 100000
namespace Mine
open Builtin

def joinB (sep : List UInt8) : List (List UInt8) → List UInt8
  | [] => []
  | [x] => x
  | x :: y :: r => x ++ sep ++ joinB sep (y :: r)

theorem joined_aux (sep : Array UInt8) : ∀ (ps : List (Array UInt8)) (n : Nat) (acc : Array UInt8), ((ps.zipIdx (n + 1)).foldl (fun out (x : Array UInt8 × Nat) => (if x.2 > 0 then out ++ sep else out) ++ x.1) acc) = acc ++ (ps.map (fun p => sep ++ p)).foldl (· ++ ·) #[]
  | [], n, acc => by simp
  | p :: ps, n, acc => by
    rw [List.zipIdx_cons, List.foldl_cons, joined_aux sep ps (n + 1)]
    simp only [Nat.zero_lt_succ, if_true, gt_iff_lt, List.map_cons, List.foldl_cons, Array.empty_append]
    have : ∀ (l : List (Array UInt8)) (a : Array UInt8), l.foldl (· ++ ·) a = a ++ l.foldl (· ++ ·) #[] := by
      intro l
      induction l with
      | nil => intro a; simp
      | cons x r ih => intro a; rw [List.foldl_cons, ih, List.foldl_cons, ih (#[] ++ x)]; simp [Array.append_assoc]
    rw [this _ (sep ++ p), Array.append_assoc, Array.append_assoc, Array.append_assoc]
theorem joinB_cons (sep x : List UInt8) (r : List (List UInt8)) : joinB sep (x :: r) = x ++ (r.map (sep ++ ·)).flatten := by
  induction r generalizing x with
  | nil => simp [joinB]
  | cons y r ih => rw [joinB, ih]; simp
theorem joined_eq (sep : List UInt8) (xs : List (List UInt8)) : Bytes.joined sep.toArray (xs.map (·.toArray)) = (joinB sep xs).toArray := by
  cases xs with
  | nil => rfl
  | cons x r =>
    show (((x.toArray :: r.map (·.toArray)).zipIdx 0).foldl (fun out (x : Array UInt8 × Nat) => (if x.2 > 0 then out ++ sep.toArray else out) ++ x.1) #[]) = _
    rw [List.zipIdx_cons, List.foldl_cons, joined_aux, joinB_cons]
    have : ∀ (r : List (List UInt8)) (a : List UInt8), (r.map (fun x => sep.toArray ++ x.toArray)).foldl (· ++ ·) a.toArray = (a ++ (r.map (sep ++ ·)).flatten).toArray := by
      intro r
      induction r with
      | nil => intro a; simp
      | cons x r ih => intro a; rw [List.map_cons, List.foldl_cons]; rw [show a.toArray ++ (sep.toArray ++ x.toArray) = (a ++ (sep ++ x)).toArray by simp, ih]; simp
    simp only [List.map_map, Function.comp_def]
    rw [this r []]; simp

section
variable {M : Model} {A : Around} {E : Value → Shared → Prop} {s : Shared} {α : Type}
theorem if_no {c : Bool} {a b : Sem α} {Q : α → Shared → Prop} (hc : c = false) (h : wpAny M A b Q E s) : wpAny M A (if c = true then a else b) Q E s := by rw [hc]; exact h
theorem if_yes {c : Bool} {a b : Sem α} {Q : α → Shared → Prop} (hc : c = true) (h : wpAny M A a Q E s) : wpAny M A (if c = true then a else b) Q E s := by rw [hc]; exact h
end
theorem quietTake (id : String) (b : Array UInt8) (t : Tok) : Bytes.takeBufferQuiet? id (.bytes b t) 0 = pure (some (b, Option.none)) := by
  have e : Bytes.takeBuffer? id (.bytes b t) 0 = pure (some (b, Option.none)) := by
    unfold Bytes.takeBuffer?
    simp only [KBy.special_eq KBy.look_buffer, KBy.own_buffer, KBy.buffer_eq]
    kernel_rfl
  unfold Bytes.takeBufferQuiet?
  rw [e]; rfl

theorem offHeap {N : Addr → Prop} {h : Heap} : ∀ {xs : List (List UInt8)} {ws : List Value}, Reps N h (xs.map D.bytes) ws → ∀ v ∈ ws, v.onHeap = false
  | [], ws, r, v, hv => by simp only [List.map_nil, Reps] at r; subst r; simp at hv
  | x :: xs, ws, r, v, hv => by
    simp only [List.map_cons, Reps] at r
    obtain ⟨a, b, rfl, r1, r2⟩ := r
    rcases List.mem_cons.1 hv with rfl | hv
    · obtain ⟨t, rfl⟩ := r1.bytes_inv; rfl
    · exact offHeap r2 v hv
theorem wp_joinLetGo {M : Model} {A : Around} {E : Value → Shared → Prop} {keep : List Value} {s : Shared} {Q : Unit → Shared → Prop} (hq : Q () s) : ∀ (ws : List Value), wpAny M A (Bytes.joinLetGo (ws.map (·, Option.none)) keep) Q E s
  | [] => wpAny_pure hq
  | v :: ws => by
    show wpAny M A (Bytes.joinLetGo ((v, Option.none) :: ws.map (·, Option.none)) keep) Q E s
    have e : Bytes.joinLetGo ((v, Option.none) :: ws.map (·, Option.none)) keep = (do letGo [v] (keep ++ (ws.map (·, (Option.none : Option Value))).flatMap fun (y, u) => y :: u.toList); Bytes.joinLetGo (ws.map (·, Option.none)) keep) := rfl
    rw [e]
    exact wpAny_bind (wpAny_letGo (wp_joinLetGo hq ws))

theorem wp_join (sep : List UInt8) (t : Tok) (a : Addr) (vs : List Value) (xs : List (List UInt8)) {N : Addr → Prop} {M : Model} {A : Around} {E : Value → Shared → Prop} {s : Shared} {Q : Value → Shared → Prop}
    (l : s.heap.IsList a vs.toArray) (rs : Reps N s.heap (xs.map D.bytes) vs) (hs : (joinB sep xs).length ≤ 16777216) (hs2 : sep.length * xs.length + (xs.map (·.length)).sum ≤ 16777216)
    (hq : ∀ t' k, Q (.bytes (joinB sep xs).toArray t') { s with toks := k }) :
    wpAny M A («bytes.join» ⟨[.bytes sep.toArray t, .ref a], []⟩) (fun fin s' => ∃ v, fin = .done (.ret v) ∧ Q v s') E s := by
  obtain ⟨o, ho, hc, n, hd⟩ := id l
  have h1 (id : String) : selfAndOne id ⟨[.bytes sep.toArray t, .ref a], []⟩ = pure (.bytes sep.toArray t, .ref a) := rfl
  have h3 : Bytes.payload (.bytes sep.toArray t) = pure sep.toArray := rfl
  show wpAny M A (Bytes.joinM .bytes _) _ E s
  unfold Bytes.joinM
  refine wpAny_bind (wpAny_of_eq (h1 _) ?_)
  refine wpAny_bind ?_
  unfold Bytes.joinItems
  refine wpAny_bind (wpAny_typeOf l.typeIs ?_)
  refine wpAny_pure ?_
  refine wpAny_bind (wpAny_seqItems ho hd ?_)
  refine if_yes rfl ?_
  have fits : ¬ Bytes.tooLong (((xs.map (·.toArray)).toArray).foldl (fun x1 x2 => x1 + x2.size) (sep.toArray.size * (((xs.map (·.toArray)).toArray).size - 1))) = true := by
    have e : ∀ (l : List (List UInt8)) (z : Nat), (l.map (·.toArray)).foldl (fun x1 (x2 : Array UInt8) => x1 + x2.size) z = z + (l.map (·.length)).sum := by
      intro l
      induction l with
      | nil => intro z; simp
      | cons x r ih => intro z; rw [List.map_cons, List.foldl_cons, ih]; simp; omega
    rw [List.foldl_toArray, e]
    simp only [List.size_toArray, List.length_map]
    have : sep.length * (xs.length - 1) ≤ sep.length * xs.length := Nat.mul_le_mul_left _ (by omega)
    rw [KBy.tooLong_not (by omega)]
    exact Bool.false_ne_true
  have rl := rs.length
  rw [List.length_map] at rl
  cases vs with
  | nil => 
    cases xs with
    | cons x xs => simp at rl
    | nil =>
      refine wpAny_bind ?_
      rw [Std.Legacy.Range.forIn_eq_forIn_range']
      refine wpAny_pure ?_
      refine wpAny_bind (wpAny_of_eq h3 ?_)
      refine wpAny_ite ((if_neg fits).symm ▸ ?_)
      refine wpAny_bind (wpAny_mkBytes ?_ (by rw [show ((#[] : Array (Array UInt8)).toList) = ([] : List (List UInt8)).map (·.toArray) from rfl, joined_eq, sizeLine_eq]; simp [joinB]))
      refine wpAny_bind (wpAny_holding (wpAny_point ?_))
      refine wpAny_bind (wpAny_pure ?_)
      refine wpAny_pure ⟨_, rfl, ?_⟩
      exact hq _ _
  | cons v r => 
    cases r with
    | nil =>
      obtain ⟨x, rfl⟩ : ∃ x, xs = [x] := by
        match xs, rl with
        | [x], _ => exact ⟨x, rfl⟩
      simp only [List.map_cons, List.map_nil, Reps] at rs
      obtain ⟨x1, r1, e, rr, -⟩ := rs
      cases e
      obtain ⟨t1, rfl⟩ := rr.bytes_inv
      refine wpAny_bind (wpAny_typeOf (typeIs_bytes _ _ _) ?_)
      refine if_yes rfl ?_
      refine wpAny_bind (wpAny_rule ?_)
      exact wpAny_pure ⟨_, rfl, hq t1 s.toks⟩
    | cons v2 r => 
      refine wpAny_bind ?_
      generalize hw : v :: v2 :: r = ws at *
      rw [Std.Legacy.Range.forIn_eq_forIn_range']
      simp only [Std.Legacy.Range.size, Nat.sub_zero, Nat.add_sub_cancel, Nat.div_one, List.size_toArray]
      refine wpAny_forIn_list _ (fun rest b s' => ∃ i, rest = List.range' i (ws.length - i) ∧ i ≤ ws.length ∧ b = (((xs.take i).map (·.toArray)).toArray, (ws.take i).map (·, Option.none)) ∧ s' = s) _ ?_ ?_ _ _ ⟨0, by simp, Nat.zero_le _, by simp, rfl⟩
      · rintro x rest b s' ⟨i, h1, h2, rfl, rfl⟩
        have hi : i < ws.length := by
          rcases Nat.lt_or_ge i ws.length with h | h
          · exact h
          · rw [Nat.sub_eq_zero_of_le h] at h1; simp at h1
        have hj : ws.length - i = (ws.length - (i + 1)) + 1 := by omega
        rw [hj, List.range'_succ] at h1
        obtain ⟨rfl, rfl⟩ := List.cons.inj h1
        obtain ⟨v, hv, rv⟩ := rs.get (i := x) (d := D.bytes (xs[x]'(by omega))) (by rw [List.getElem?_map, List.getElem?_eq_getElem (by omega)]; rfl)
        obtain ⟨t1, rfl⟩ := rv.bytes_inv
        refine wpAny_bind (wpAny_seqItems ho hd ?_)
        refine if_no ?_ ?_
        · rw [show (Bytes.Kind.bytes == Bytes.Kind.bytearray) = false from rfl, Bool.false_or, List.any_eq_false]
          intro p hp
          obtain ⟨v', hv', rfl⟩ := List.mem_map.1 hp
          rw [offHeap rs v' (List.mem_of_mem_take hv')]
          exact Bool.false_ne_true
        have e : ws.toArray.getD x Value.none = .bytes (xs[x]'(by omega)).toArray t1 := by simp [hv]
        rw [e]
        refine wpAny_bind (wpAny_holding (wpAny_of_eq (quietTake _ _ _) ?_))
        refine wpAny_bind (wpAny_seqItems ho hd ?_)
        refine if_no (by simp) ?_
        refine wpAny_pure ⟨x + 1, rfl, by omega, ?_, rfl⟩
        have ea : xs.take (x + 1) = xs.take x ++ [xs[x]'(by omega)] := take_succ' (by omega)
        have eb : ws.take (x + 1) = ws.take x ++ [.bytes (xs[x]'(by omega)).toArray t1] := by rw [List.take_add_one, hv]; rfl
        rw [ea, eb, List.map_append, List.map_append]
        simp only [List.map_cons, List.map_nil, List.push_toArray]
      · rintro b s' ⟨i, h1, h2, rfl, rfl⟩
        have hi : i = ws.length := by
          have := congrArg List.length h1; simp at this; omega
        have ht : xs.take i = xs := List.take_of_length_le (by omega)
        rw [ht]
        refine wpAny_bind (wpAny_of_eq h3 ?_)
        refine wpAny_ite ((if_neg fits).symm ▸ ?_)
        have ej : Bytes.joined sep.toArray ((xs.map (·.toArray)).toArray).toList = (joinB sep xs).toArray := by rw [List.toList_toArray, joined_eq]
        refine wpAny_bind (wpAny_mkBytes ?_ ?_)
        · refine wpAny_bind (wpAny_holding (wpAny_point ?_))
          refine wpAny_bind (wp_joinLetGo ?_ _)
          refine wpAny_pure ⟨_, rfl, ?_⟩
          rw [ej]
          exact hq _ _
        · rw [sizeLine_eq]; show Array.size (Bytes.joined sep.toArray _) ≤ _; rw [ej]; simpa using hs

section
variable {w : World} {k : Nat}
theorem Op.join {sep : List UInt8} {xs : List (List UInt8)} (hs : (joinB sep xs).length ≤ 16777216) (hs2 : sep.length * xs.length + (xs.map (·.length)).sum ≤ 16777216) :
    Op w k (fun vs => call (.builtin "bytes.join") vs) [.bytes sep, .list (xs.map D.bytes)] (.bytes (joinB sep xs)) := fun N A s E vs R G al r => by
  obtain ⟨v, u, rfl, x, y⟩ := r.two_inv
  obtain ⟨t, rfl⟩ := x.bytes_inv
  obtain ⟨a, vs, rfl, na, l, rs⟩ := y.list_inv
  exact call_wp slot_bytes_join (typeIs_bytes _ _ _) entry_bytes_join (args_bytes_join_2 _ _) (wp_join sep t a vs xs l rs hs hs2 fun t'' kk => ⟨.bytes_mk, kSame⟩)

theorem wp_newBytes {N : Addr → Prop} {M : Model} {A : Around} {E : Value → Shared → Prop} {h : Heap} : ∀ (xs : List (List UInt8)) {s : Shared} {Q : List Value → Shared → Prop}, (∀ x ∈ xs, x.length ≤ 16777216) →
    (∀ vs k, Reps N s.heap (xs.map D.bytes) vs → Q vs { s with toks := k }) → wpAny M A ((xs.map (·.toArray)).mapM (Bytes.Kind.new .bytes)) Q E s
  | [], s, Q, hx, hq => by
    rw [List.map_nil, List.mapM_nil]
    exact wpAny_pure (hq [] s.toks .nil)
  | x :: xs, s, Q, hx, hq => by
    rw [List.map_cons, List.mapM_cons]
    refine wpAny_bind (wpAny_mkBytes (wpAny_bind (wp_newBytes (N := N) (h := h) xs (fun y hy => hx y (List.mem_cons_of_mem _ hy)) fun vs k r => wpAny_pure ?_)) (by rw [sizeLine_eq]; simpa using hx x (List.mem_cons_self ..)))
    exact hq _ _ (.cons .bytes_mk r)

theorem splitB_len (c : UInt8) : ∀ (b : List UInt8), (splitB c b).length ≤ b.length + 1 ∧ ∀ x ∈ splitB c b, x.length ≤ b.length
  | [] => by simp [splitB]
  | y :: r => by
    obtain ⟨h1, h2⟩ := splitB_len c r
    unfold splitB
    split
    · refine ⟨by simp; omega, fun x hx => ?_⟩
      rcases List.mem_cons.1 hx with rfl | hx
      · simp
      · have := h2 x hx; simp; omega
    · split
      · simp
      · rename_i h t e
        rw [e] at h1 h2
        refine ⟨by simp at h1 ⊢; omega, fun x hx => ?_⟩
        rcases List.mem_cons.1 hx with rfl | hx
        · have := h2 h (List.mem_cons_self ..); simp; omega
        · have := h2 x (List.mem_cons_of_mem _ hx); simp; omega
theorem splitB_none (c : UInt8) : ∀ (b : List UInt8), b.count c = 0 → splitB c b = [b]
  | [], _ => rfl
  | y :: r, h => by
    rw [List.count_cons] at h
    have h1 : r.count c = 0 := by omega
    have h2 : ¬ (y = c) := by intro e; subst e; simp at h
    unfold splitB
    rw [if_neg h2, splitB_none c r h1]

theorem bindOpt (v : Value) : Bytes.bindOptional "bytes.split" "split" ["sep", "maxsplit"] [v] [] = pure [some v, Option.none] := by kernel_rfl

theorem wp_split (b : List UInt8) (c : UInt8) (t u : Tok) (N : Addr → Prop) {M : Model} {A : Around} {E : Value → Shared → Prop} {s : Shared} {Q : Value → Shared → Prop} (hb : b.length < 16777216) (al : Al N s.heap)
    (hq : ∀ v s', Rep N s'.heap (.list ((splitB c b).map D.bytes)) v → Keeps s s' → Q v s') :
    wpAny M A («bytes.split» ⟨[.bytes b.toArray t, .bytes #[c] u], []⟩) (fun fin s' => ∃ v, fin = .done (.ret v) ∧ Q v s') E s := by
  have h3 : Bytes.payload (.bytes b.toArray t) = pure b.toArray := rfl
  have h4 (id : String) : Bytes.bytesLike id (.bytes #[c] u) = pure #[c] := by unfold Bytes.bytesLike; simp only [KBy.buffer_eq, pure_bind]
  have h5 : Bytes.Kind.same .bytes (.bytes b.toArray t) = pure (.bytes b.toArray t) := rfl
  have key : ∀ vs k, Reps N s.heap ((splitB c b).map D.bytes) vs → wpAny M A (newList vs >>= fun v => ret v) (fun fin s' => ∃ v, fin = .done (.ret v) ∧ Q v s') E { s with toks := k } := by
    intro vs k rs
    have hl := rs.length
    rw [List.length_map] at hl
    have := (splitB_len c b).1
    refine wpAny_bind (wpAny_newList ?_ (by rw [sizeLine_eq]; omega))
    refine wpAny_pure ⟨_, rfl, hq _ _ ?_ ?_⟩
    · exact .list_mk (vs := vs) al.fresh ⟨_, Heap.get?_push_size _ rfl, rfl, 0, rfl⟩ (rs.keeps fun _ _ e => Heap.get?_push_of_some _ e)
    · exact ⟨_, _, rfl, fun b o e => Heap.get?_push_of_some _ e⟩
  show wpAny M A (Bytes.splitM .bytes "split" false _) _ E s
  unfold Bytes.splitM
  refine wpAny_bind (wpAny_of_eq (bindOpt _) ?_)
  refine wpAny_bind (wpAny_pure ?_)
  refine wpAny_bind (wpAny_of_eq h3 ?_)
  refine wpAny_bind (wpAny_of_eq (h4 _) ?_)
  refine if_no rfl ?_
  have el : ((Bytes.occurrences b.toArray #[c] 0 b.toArray.size).take (if (-1 : Int) < 0 then b.toArray.size + 1 else (-1 : Int).toNat)) = Bytes.occurrences b.toArray #[c] 0 b.toArray.size := by
    rw [if_pos (by decide)]
    refine List.take_of_length_le ?_
    rw [occ_len]
    exact Nat.le_trans List.count_le_length (by simp)
  dsimp only
  rw [if_neg Bool.false_ne_true, el]
  by_cases hp : (Bytes.occurrences b.toArray #[c] 0 b.toArray.size).isEmpty = true
  · refine if_yes hp ?_
    have h0 : b.count c = 0 := by rw [← occ_len]; simpa using hp
    refine wpAny_bind (wpAny_rule (wpAny_bind (wpAny_of_eq h5 ?_)))
    refine key [_] s.toks ?_
    rw [splitB_none c b h0]
    exact .cons .bytes_mk .nil
  · refine if_no (by simpa using hp) ?_
    rw [show (#[c] : Array UInt8).size = 1 from rfl, btw_eq]
    exact wpAny_bind (wp_newBytes (N := N) (h := s.heap) _ (fun x hx => by have := (splitB_len c b).2 x hx; omega) key)

theorem Op.split {b : List UInt8} {c : UInt8} (hb : b.length < 16777216) : Op w k (fun vs => call (.builtin "bytes.split") vs) [.bytes b, .bytes [c]] (.list ((splitB c b).map D.bytes)) := fun N A s E vs R G al r => by
  obtain ⟨v, u, rfl, x, y⟩ := r.two_inv
  obtain ⟨t, rfl⟩ := x.bytes_inv
  obtain ⟨t', rfl⟩ := y.bytes_inv
  exact call_wp slot_bytes_split (typeIs_bytes _ _ _) entry_bytes_split (args_bytes_split_2 _ _) (wp_split b c t t' N hb al fun v s' r k => ⟨r, k⟩)
end
end Mine
end

section
open PySem PySem.W PyProof.Rows PySem.Calls
set_option maxRecDepth 100000
namespace Mine

theorem Has.less {N N' : Addr → Prop} {env : Env} {h : Heap} {x : Str} {d : D} (k : ∀ b, N' b → N b) (H : Has N env h x d) : Has N' env h x d := by
  cases H with
  | undef => exact .undef
  | own B l r => exact .own B l (r.less k)
  | rep B r => exact .rep B (r.less k)
theorem Has.more {N N' : Addr → Prop} {env : Env} {h : Heap} {x : Str} {d : D} (k : ∀ b o, h.get? b = some o → N' b → N b) (H : Has N env h x d) : Has N' env h x d := by
  cases H with
  | undef => exact .undef
  | own B l r => exact .own B l (r.more k)
  | rep B r => exact .rep B (r.more k)

section
variable {w : World} {O : Addr → Prop} {k : Nat} {env : Env} {ρ : Ctx}

/-- an own list, looked at as a plain one -/
theorem St.freeze {h₀ : Heap} {N N₂ O₂ : Addr → Prop} {h : Heap} {x : Str} {a : Addr} {ds : List D} {ρ₂ : Ctx} (S : St h₀ N O env h ρ) (at' : At ρ x (.own a ds)) (u : Upd ρ x (.list ds) ρ₂)
    (hN : ∀ b, N₂ b → N b) (ha : ¬ N₂ a) (hO : ∀ b, O₂ b → O b) (hs : ∀ b, O₂ b → N₂ b) : St h₀ N₂ O₂ env h ρ₂ where
  kind := S.kind
  globs := S.globs
  blts := S.blts
  gh0 := S.gh0
  base := fun b o e => ⟨(S.base b o e).1, fun hw => (S.base b o e).2 (hw.imp id (hO b))⟩
  al := fun b hb => S.al b (hN b hb)
  sub := hs
  ns := S.ns
  cells := S.cells
  apart := S.apart
  nodup := u.keys ▸ S.nodup
  dbg := fun e he => by
    rcases u.mem S.nodup e he with rfl | ⟨h, _⟩
    · have q := S.dbg _ at'.mem; exact q
    · exact S.dbg e h
  ents := fun e he => by
    rcases u.mem S.nodup e he with rfl | ⟨h, _⟩
    · obtain ⟨sl, H⟩ := S.ents _ at'.mem
      refine ⟨sl, ?_⟩
      have H' : Has N env _ x (.own a ds) := H
      cases H' with
      | own B l r => exact .rep B (.list_mk ha l.isList (r.less hN))
      | rep B r => simp [Rep] at r
    · exact ⟨(S.ents e h).1, (S.ents e h).2.less hN⟩

theorem Tst.thaw {x : Str} {a : Addr} {ds : List D} {ρ₂ : Ctx} {e : Expr} {b : Bool} (at' : At ρ x (.own a ds)) (u : Upd ρ x (.list ds) ρ₂) (y : Tst w k env ρ₂ e b) : Tst w k env ρ e b := fun h₀ N O A s E R S =>
  y h₀ (fun b => N b ∧ b ≠ a) (fun b => O b ∧ b ≠ a) A s E R (S.freeze at' u (fun _ h => h.1) (fun h => h.2 rfl) (fun _ h => h.1) (fun b h => ⟨S.sub b h.1, h.2⟩))

/-- a list of the frame's own from its making to the end of the next statement -/
theorem Exs.own {x pos' lp pos f rest ρ ρ₃ ds o} {ρ' ρ'' : Addr → Ctx} (u : ∀ a, Upd ρ x (.own a []) (ρ' a)) (mid : ∀ a, Ex w (fun b => O b ∨ b = a) k env (ρ' a) f (.next (ρ'' a)))
    (ato : ∀ a, At (ρ'' a) x (.own a ds)) (fz : ∀ a, Upd (ρ'' a) x (.list ds) ρ₃) (more : Exs w O k env ρ₃ rest o)
    (hs : swapsWith (.List [] lp) (some (.Name x pos')) pos.line env = pure false := by with_unfolding_all rfl) :
    Exs w O k env ρ (.Assign [.Name x pos'] (.List [] lp) pos :: f :: rest) o := fun h₀ N A s E R S => by
  refine wpAny_execs_cons (wpAny_Assign_Name (List_ (wpAny_mono (Evs.nil (w := w) (k := k) h₀ N O A s _ lp R S) (fun vs s₁ h₁ => ?_) fun _ _ x => x)) hs)
  obtain rfl : vs = [] := by simpa [Reps] using h₁.1
  have S₁ := S.keeps (kHeap h₁.2)
  refine wpAny_newObj_type ?_ (Nat.zero_le _)
  have P : Keeps s₁ { s₁ with heap := s₁.heap.push { cls := .type "list", data := .seq #[] } } := kPush _
  have S₂ := S₁.keeps (kHeap P)
  have frN : ¬ N s₁.heap.objs.size := S₁.al.fresh
  have frO : ¬ O s₁.heap.objs.size := fun h => frN (S₁.sub _ h)
  have ne : ∀ b o, s₁.heap.get? b = some o → b ≠ s₁.heap.objs.size := fun b o e q => by subst q; exact absurd (Heap.lt_size e) (Nat.lt_irrefl _)
  have S' : St h₀ (fun b => N b ∨ b = s₁.heap.objs.size) (fun b => O b ∨ b = s₁.heap.objs.size) env (s₁.heap.push { cls := .type "list", data := .seq #[] }) ρ :=
    { S₂ with
      base := fun b o e => ⟨(S₂.base b o e).1, fun hw => by
        rcases hw with hw | hw | hw
        · exact (S₂.base b o e).2 (.inl hw)
        · exact (S₂.base b o e).2 (.inr hw)
        · exact ne b o (S₁.base b o e).1 hw⟩
      al := fun b hb => by
        rcases hb with hb | rfl
        · exact S₂.al b hb
        · exact ⟨_, Heap.get?_push_size _ rfl⟩
      sub := fun b hb => hb.imp (S₂.sub b) id
      ents := fun e he => ⟨(S₂.ents e he).1, ((S₁.ents e he).2.more fun b o e hb => hb.resolve_right (ne b o e)).keeps (kHeap P)⟩ }
  have ol : OwnL (s₁.heap.push { cls := .type "list", data := .seq #[] }) s₁.heap.objs.size ([] : List Value).toArray := ⟨_, Heap.get?_push_size _ rfl, rfl, 0, rfl, rfl, rfl⟩
  refine wpAny_mono (store3G (s := { s₁ with heap := s₁.heap.push { cls := .type "list", data := .seq #[] } }) S' (u s₁.heap.objs.size) (v := .ref s₁.heap.objs.size) fun h' sk hb => .own hb (let ⟨o, e, c, n, d⟩ := ol; ⟨o, sk (fun _ => False) _ _ _ _ (fun f => f) e d.1, c, n, d⟩) .nil) (fun _ s₃ h₃ => ?_) fun _ _ x => x
  refine wpAny_execs_cons (wpAny_mono (mid s₁.heap.objs.size h₀ _ A s₃ E R h₃.1.1) (fun f' s₄ h₄ => ?_) fun _ _ x => x)
  obtain ⟨⟨rfl, S₄⟩, M₄⟩ := h₄
  have S₅ : St h₀ N O env s₄.heap ρ₃ := S₄.freeze (ato _) (fz _) (fun b h => .inl h) frN (fun b h => .inl h) (fun b h => S.sub b h)
  have M : Moves (WO O env) s s₄ := by
    obtain ⟨h', tk, e, q⟩ := h₃.1.2.trans M₄
    obtain ⟨h1, t1, e1, q1⟩ := h₁.2
    subst e1
    refine ⟨h', tk, e, fun b o nb eb => q b o ?_ (kHeap P b o (q1 b o eb))⟩
    rintro (hw | hw | hw)
    · exact nb (.inl hw)
    · exact nb (.inr hw)
    · exact ne b o (q1 b o eb) hw
  exact wpAny_mono (more h₀ N A s₄ E R S₅) (fun f' s₆ h₆ => ⟨h₆.1, M.trans h₆.2⟩) fun _ _ x => x

theorem St.wr_ne {h₀ : Heap} {N : Addr → Prop} {h : Heap} {a : Addr} {its : Array Value} (S : St h₀ N O env h ρ) (l : OwnL h a its) : ¬ Wr env a := fun hw => by
  obtain ⟨n, e⟩ := l.exact
  exact S.wr_noseq hw e rfl

/-- an own list has changed -/
theorem St.grown {h₀ : Heap} {N : Addr → Prop} {h h' : Heap} {x : Str} {a : Addr} {ds ds' : List D} {ρ' : Ctx} {its vs' : List Value} (S : St h₀ N O env h ρ) (at' : At ρ x (.own a ds)) (u : Upd ρ x (.own a ds') ρ')
    (no : ∀ e ∈ ρ, e.1 ≠ x → ∀ b c, e.2 ≠ .own b c) (oa : O a) (l : OwnL h a its.toArray) (hs : Heap.SameBut a h h') (l' : OwnL h' a vs'.toArray) (r' : Reps N h' ds' vs') : St h₀ N O env h' ρ' := by
  have nw := S.wr_ne l
  have hL : env.locals ≠ a := fun q => nw (.inl q.symm)
  have hC : ∀ x c, env.cells.lookup x = some c → c ≠ a := fun x c hc q => nw (.inr ⟨x, q ▸ hc⟩)
  have bk : ∀ x v, Bnd env h x v → Bnd env h' x v := fun x v B => by
    rcases B with ⟨a', m, n, e⟩ | ⟨a', c, l, i⟩
    · exact .inl ⟨a', m, n.sameBut hs hL, e⟩
    · exact .inr ⟨a', c, l, i.sameBut hs (hC x c l)⟩
  have sk : SeqKeep N h h' := fun b o xs n nb e d => (hs.2 b (fun q => nb (q ▸ S.sub a oa))).trans e
  refine { S with base := fun b o e => ⟨(hs.2 b (fun q => (S.base b o e).2 (.inr (q ▸ oa)))).trans (S.base b o e).1, (S.base b o e).2⟩, al := fun b hb => ?_, ns := ?_, cells := ?_, nodup := u.keys ▸ S.nodup, dbg := fun e he => ?_, ents := fun e he => ?_ }
  · obtain ⟨o, e⟩ := S.al b hb
    by_cases q : b = a
    · subst q; obtain ⟨n, e'⟩ := l'.exact; exact ⟨_, e'⟩
    · exact ⟨o, (hs.2 b q).trans e⟩
  · obtain ⟨m, n⟩ := S.ns; exact ⟨m, n.sameBut hs hL⟩
  · intro y c hc
    obtain ⟨ov, i⟩ := S.cells y c hc; exact ⟨ov, i.sameBut hs (hC y c hc)⟩
  · rcases u.mem S.nodup e he with rfl | ⟨h, _⟩
    · have q := S.dbg _ at'.mem; exact q
    · exact S.dbg e h
  · rcases u.mem S.nodup e he with rfl | ⟨h, q⟩
    · obtain ⟨sl, H⟩ := S.ents _ at'.mem
      refine ⟨sl, ?_⟩
      have H' : Has N env _ x (.own a ds) := H
      cases H' with
      | own B _ _ => exact .own (bk _ _ B) l' r'
      | rep B r => simp [Rep] at r
    · obtain ⟨sl, H⟩ := S.ents e h
      refine ⟨sl, ?_⟩
      have no' := no e h q
      revert H no'
      generalize e.2 = d2
      intro H no'
      cases H with
      | undef => exact .undef
      | own B l r2 => exact absurd rfl (no' _ _)
      | rep B r2 => exact .rep (bk _ _ B) (r2.stay sk)

/-- the address of an own list -/
theorem loadOwn {h₀ : Heap} {N : Addr → Prop} {A : Around} {s : Shared} {E : Value → Shared → Prop} {x a ds} {pos : Pos} (S : St h₀ N O env s.heap ρ) (at' : At ρ x (.own a ds)) :
    wpAny (model PG w) A (eval (.Name x pos) env) (fun v s' => v = .ref a ∧ s' = s ∧ ∃ vs, OwnL s.heap a vs.toArray ∧ Reps N s.heap ds vs) E s := by
  obtain ⟨hs, h⟩ := S.ents _ at'.mem
  obtain ⟨n1, n2⟩ := S.dbg _ at'.mem
  refine wpAny_Name ?_ n1
  have h' : Has N env s.heap x (.own a ds) := h
  cases h' with
  | rep B r => simp [Rep] at r
  | own B l r =>
    have fin : (.ref a : Value) = .ref a ∧ s = s ∧ ∃ vs : List Value, OwnL s.heap a vs.toArray ∧ Reps N s.heap ds vs := ⟨rfl, rfl, _, l, r⟩
    rcases B with ⟨a', m, n, e⟩ | ⟨a', c, l', i⟩
    · exact wpAny_loadName_local S.kind a' n e fin
    · rcases a' with a' | a'
      · exact wpAny_loadName_cell S.kind a' l' i fin
      · exact wpAny_loadName_free S.kind a' l' i fin n2

/-- x.append(e) -/
theorem Ex.append {x p ap e pos pos2 a ds d ρ' pl} (at' : At ρ x (.own a ds)) (ev : Ev w k env ρ e d) (u : Upd ρ x (.own a (ds ++ [d])) ρ')
    (no : ∀ e ∈ ρ, e.1 ≠ x → ∀ b c, e.2 ≠ .own b c) (oa : O a) (hsz : ds.length ≤ 16777215)
    (hev : eval (.Call (.Attribute (.Name x p) (Str.ofString "append") ap) [e] [] pos) env = (do
      let ov ← eval (.Name x p) env
      standAt ap.atName
      let (f, first) ← holding [ov] (getMethod ov (Str.ofString "append") pl)
      callWith pos f first (backTo pos (starEach [e] env)) []) := by with_unfolding_all rfl)
    (he : starEach [e] env = (false, eval e env) :: starEach [] env := by with_unfolding_all rfl) (hplain : (backTo pos (starEach [] env)).any (·.1) = false := by with_unfolding_all rfl)
    (hi : interactive env = false := by with_unfolding_all rfl) (hs : swapsWith (.Call (.Attribute (.Name x p) (Str.ofString "append") ap) [e] [] pos) none pos2.line env = pure false := by with_unfolding_all rfl) :
    Ex w O k env ρ (.Expr (.Call (.Attribute (.Name x p) (Str.ofString "append") ap) [e] [] pos) pos2) (.next ρ') := fun h₀ N A s E R S => by
  refine wpAny_Expr ?_ hi hs
  refine MethodCall_ (pl := pl) (wpAny_mono (loadOwn S at') (fun v s₁ h₁ => ?_) fun _ _ x => x) hev
  obtain ⟨rfl, rfl, vs, ol, rs⟩ := h₁
  obtain ⟨n, ho⟩ := ol.exact
  refine Calls.getMethod_list_append ho rfl rfl ?_
  refine callWith_method1 (wpAny_mono ((Evs.cons ev .nil (he := he) : Evs w k env ρ [e] [d]) h₀ N O A s₁ _ pos R S) (fun us s₂ h₂ => ?_) fun _ _ x => x) he hplain
  obtain ⟨v, rfl, rv⟩ := h₂.1.one_inv
  have ho₂ := kHeap h₂.2 _ _ ho
  refine append_at ho₂ (fun h' hsb ho' => ?_) (by rw [sizeLine_eq, List.size_toArray, rs.length]; omega)
  have S₂ := S.keeps (kHeap h₂.2)
  have ol₂ : OwnL s₂.heap a vs.toArray := ⟨_, ho₂, rfl, n, rfl, rfl, rfl⟩
  have sk : SeqKeep N s₂.heap h' := fun b o xs n nb e d => (hsb.2 b (fun q => nb (q ▸ S₂.sub a oa))).trans e
  have e3 : vs.toArray.push v = (vs ++ [v]).toArray := by simp
  rw [e3] at ho'
  refine ⟨⟨rfl, S₂.grown at' u no oa ol₂ hsb ⟨_, ho', rfl, _, rfl, rfl, rfl⟩ (Reps.append ((rs.keeps (kHeap h₂.2)).stay sk) (.cons (rv.stay sk) .nil))⟩, ?_⟩
  exact (kMoves h₂.2).trans ⟨h', _, rfl, fun b o nb e => (hsb.2 b (fun q => nb (.inr (q ▸ oa)))).trans e⟩

theorem list_pop_meth : typeOf (.builtin "list.pop") = pure (.type "method_descriptor") := by show builtinType _ = _; rw [builtinType_eq_fast]; kernel_rfl

/-- x.pop() -/
theorem Ex.pop {x p ap pos pos2 a ds d ρ' pl} (at' : At ρ x (.own a (ds ++ [d]))) (u : Upd ρ x (.own a ds) ρ') (hd : d.flat = true)
    (no : ∀ e ∈ ρ, e.1 ≠ x → ∀ b c, e.2 ≠ .own b c) (oa : O a) (hsz : ds.length ≤ 16777210)
    (hev : eval (.Call (.Attribute (.Name x p) (Str.ofString "pop") ap) [] [] pos) env = (do
      let ov ← eval (.Name x p) env
      standAt ap.atName
      let (f, first) ← holding [ov] (getMethod ov (Str.ofString "pop") pl)
      callWith pos f first [] []) := by with_unfolding_all rfl)
    (hi : interactive env = false := by with_unfolding_all rfl) (hs : swapsWith (.Call (.Attribute (.Name x p) (Str.ofString "pop") ap) [] [] pos) none pos2.line env = pure false := by with_unfolding_all rfl) :
    Ex w O k env ρ (.Expr (.Call (.Attribute (.Name x p) (Str.ofString "pop") ap) [] [] pos) pos2) (.next ρ') := fun h₀ N A s E R S => by
  refine wpAny_Expr_any ?_ hi hs
  refine MethodCall_ (pl := pl) (wpAny_mono (loadOwn S at') (fun v s₁ h₁ => ?_) fun _ _ x => x) hev
  obtain ⟨rfl, rfl, vs, ol, rs⟩ := h₁
  obtain ⟨n, ho⟩ := ol.exact
  refine getMethod_list_of PySem.F.slot_list_pop list_pop_meth ol.isList ⟨_, ho, rfl⟩ ?_
  have hv := rs.length
  obtain ⟨v, hvv, rv⟩ := rs.get (i := ds.length) (d := d) (by simp)
  have hlen : vs.length = ds.length + 1 := by rw [hv]; simp
  have hvs : vs = vs.take ds.length ++ [v] := by
    have h1 := take_succ' (b := vs) (n := ds.length) (by omega)
    rw [List.take_of_length_le (by omega)] at h1
    rw [List.getElem?_eq_getElem (by omega)] at hvv
    rw [Option.some.inj hvv] at h1
    exact h1
  refine PySem.P.pop_list ho (y := v) ?_ ?_ ?_
  · rw [List.size_toArray, hlen]; simpa using hvv
  · have hdv : vs.take ds.length = vs.dropLast := by rw [List.dropLast_eq_take, hlen]; rfl
    have e3 : vs.toArray.eraseIdxIfInBounds (vs.toArray.size - 1) = (vs.take ds.length).toArray := by
      rw [hvs]
      simp [hlen, List.eraseIdx_append_of_length_le]
    have em : Obj.mapSeq (fun xs => xs.eraseIdxIfInBounds (vs.toArray.size - 1)) { cls := .type "list", dict := none, data := .seq vs.toArray n, slots := #[] } = { cls := .type "list", dict := none, data := .seq (vs.take ds.length).toArray (n + 1), slots := #[] } := by
      simp only [Obj.mapSeq, e3]
      simp
      omega
    have ho' := Heap.get?_update_self (Obj.mapSeq fun xs => xs.eraseIdxIfInBounds (vs.toArray.size - 1)) ho (by rw [em]; rfl)
    rw [em] at ho'
    have hsb : Heap.SameBut a s₁.heap (s₁.heap.update a (Obj.mapSeq fun xs => xs.eraseIdxIfInBounds (vs.toArray.size - 1))) := Heap.SameBut.update ..
    have sk : SeqKeep N s₁.heap (s₁.heap.update a (Obj.mapSeq fun xs => xs.eraseIdxIfInBounds (vs.toArray.size - 1))) := fun b o xs n nb e d => (hsb.2 b (fun q => nb (q ▸ S.sub a oa))).trans e
    have rs' : Reps N s₁.heap ds (vs.take ds.length) := by
      have := rs.take ds.length
      simpa using this
    refine ⟨⟨rfl, S.grown at' u no oa ol hsb ⟨_, ho', rfl, _, rfl, rfl, rfl⟩ (rs'.stay sk)⟩, ?_⟩
    exact ⟨_, _, rfl, fun b o nb e => (hsb.2 b (fun q => nb (.inr (q ▸ oa)))).trans e⟩
  · rw [sizeLine_eq, List.size_toArray]; omega
end
end Mine
end

section
open PySem PySem.W PyProof.Rows PySem.Calls
set_option maxRecDepth 100000
namespace Mine

section
variable {w : World} {k : Nat} {env : Env} {ρ : Ctx}

theorem fresh_none (h : Heap) : h.get? h.objs.size = none := by
  cases e : h.get? h.objs.size with
  | none => rfl
  | some o => exact absurd (Heap.lt_size e) (Nat.lt_irrefl _)
theorem above_none {h : Heap} {a : Nat} (ha : h.objs.size ≤ a) : h.get? a = none := by
  cases e : h.get? a with
  | none => rfl
  | some o => exact absurd (Nat.lt_of_lt_of_le (Heap.lt_size e) ha) (Nat.lt_irrefl _)

/-! ## walking over bytes, over a range -/
theorem its_bytes {b : List UInt8} (hsz : b.length ≤ sizeLine) : Its w k (.bytes b) (b.map fun c => .int c.toNat) := fun N A s E v R G al r => by
  obtain ⟨t, rfl⟩ := r.bytes_inv
  refine KBw.pyIter_bytes ?_
  have W := KBw.walks (prog := PG) (w := w) R.2.2 s.heap.objs.size b.toArray t
  rw [show b.toArray.size = (b.map fun c => (.int c.toNat : D)).length by simp] at W
  refine ⟨s.heap.objs.size, [s.heap.objs.size], [s.heap.objs.size], _, _, rfl, W, ⟨_, Heap.get?_push_size _ rfl, rfl, rfl⟩, kPush _, ?_, ?_, ?_, ?_, ?_, by simpa using hsz⟩
  · intro b' hb
    rw [List.mem_singleton.1 hb]
    show _ < (s.heap.push _).objs.size
    rw [Heap.size_push]; exact Nat.lt_succ_self _
  · intro b' hb
    rw [List.mem_singleton.1 hb]; exact .inl (fresh_none _)
  · intro b' hb
    rw [List.mem_singleton.1 hb]; exact fresh_none _
  · rintro i h b' o xs n ⟨o', e', _, d'⟩ hb e
    rw [List.mem_singleton.1 hb] at e
    rw [e] at e'; cases e'; rw [d']; exact fun h => nomatch h
  · rintro i u d ⟨c, t', hc, rfl⟩ hd
    have hc' : b[i]? = some c := by simpa using hc
    rw [List.getElem?_map, hc'] at hd
    cases hd
    exact .int_mk

theorem EvIt.range {x p e pos n} (hx : x = Str.ofString "range") (ev : Ev w k env ρ e (.int n)) (hlo : -(2 ^ 62) ≤ n) (hhi : n.toNat ≤ sizeLine)
    (hk : env.kindOf x = some .globalImplicit := by with_unfolding_all rfl) (hd : (x == ("__debug__" : Str)) = false := by decide) (he : starEach [e] env = (false, eval e env) :: starEach [] env := by with_unfolding_all rfl)
    (hplain : ∀ pos, (backTo pos (starEach [] env)).any (·.1) = false := by intro _; with_unfolding_all rfl) :
    EvIt w k env ρ (.Call (.Name x p) [e] [] pos) ((List.range n.toNat).map fun i : Nat => D.int (i : Int)) := fun h₀ N O A s E R S => by
  subst hx
  refine Call_ (bltName S hk hd free_range boot_range ?_)
  rw [he]
  refine PySem.callWith_type (by show (false || (backTo pos (starEach [] env)).any (·.1)) = false; rw [hplain]; rfl) ?_
  refine evalArgs_plain (x := eval e env) (rest := backTo pos (starEach [] env)) ?_
  have := (Evs.cons ev .nil (he := he) : Evs w k env ρ [e] [.int n]) h₀ N O A s E pos R S
  rw [he] at this
  refine wpAny_mono this (fun vs s₁ h => ?_) fun _ _ x => x
  obtain ⟨v, rfl, rv⟩ := h.1.one_inv
  obtain ⟨t, rfl⟩ := rv.int_inv
  refine call_range_1 ?_
  have hn2 : n < 2 ^ 62 := by rw [sizeLine_eq] at hhi; omega
  refine wpAny_pyIter_range (IsRange.new ..) (small_one (by decide) (by decide) hlo hn2) ?_
  have W := Walks.range (prog := PG) (w := w) R.2.2 (s₁.heap.objs.size + 1) 0 1 n.toNat
  have hsz : Builtin.Range.rangeSize 0 n 1 = (n.toNat : Int) := by rw [rangeSize_one]; split <;> omega
  have es : (s₁.heap.push { cls := .type "range", data := .fields #[.int 0 s₁.toks, .int n t, .int 1 (s₁.toks + 1)] }).objs.size = s₁.heap.objs.size + 1 := Heap.size_push _ _
  have hlen : ((List.range n.toNat).map fun i : Nat => D.int (i : Int)).length = n.toNat := by simp
  have back : ∀ b, s₁.heap.objs.size ≤ b → s.heap.get? b = none := fun b hb => by
    cases e : s.heap.get? b with
    | none => rfl
    | some o => exact absurd (Nat.lt_of_lt_of_le (Heap.lt_size (kHeap h.2 b o e)) hb) (Nat.lt_irrefl _)
  refine ⟨s₁.heap.objs.size + 1, [s₁.heap.objs.size + 1], [s₁.heap.objs.size + 1], (fun i v => ∃ t, v = .int (0 + i * 1) t), (fun i h => IsRangeIter h (s₁.heap.objs.size + 1) (0 + (i : Nat) * 1) ((n.toNat : Int) - (i : Nat)) 1), by rw [← es], by rw [hlen]; exact W, ?_, kTrans h.2 ⟨_, _, rfl, fun b o e => Heap.get?_push_of_some _ (Heap.get?_push_of_some _ e)⟩, ?_, ?_, ?_, ?_, ?_, by simpa using hhi⟩
  · have e1 : (0 + ((0 : Nat) : Int) * 1) = 0 := by simp
    have e2 : ((n.toNat : Int) - ((0 : Nat) : Int)) = Builtin.Range.rangeSize 0 n 1 := by rw [hsz]; simp
    show IsRangeIter _ _ (0 + ((0 : Nat) : Int) * 1) ((n.toNat : Int) - ((0 : Nat) : Int)) 1
    rw [e1, e2]
    have := Heap.get?_push_size (s₁.heap.push { cls := .type "range", data := .fields #[.int 0 s₁.toks, .int n t, .int 1 (s₁.toks + 1)] }) (o := { cls := .type "range_iterator", data := .fields #[rawInt 0, rawInt (Builtin.Range.rangeSize 0 n 1), rawInt 1] }) rfl
    rw [es] at this
    exact this
  · intro b' hb
    rw [List.mem_singleton.1 hb]
    show _ < ((s₁.heap.push _).push _).objs.size
    rw [Heap.size_push, Heap.size_push]; exact Nat.lt_succ_self _
  · intro b' hb
    rw [List.mem_singleton.1 hb]; exact .inl (back _ (Nat.le_succ _))
  · intro b' hb
    rw [List.mem_singleton.1 hb]; exact back _ (Nat.le_succ _)
  · rintro i h b' o xs n' e' hb e
    rw [List.mem_singleton.1 hb] at e
    rw [show h.get? (s₁.heap.objs.size + 1) = _ from e'] at e; cases e; exact fun h => nomatch h
  · rintro i u d ⟨t', rfl⟩ hd
    rw [List.getElem?_map] at hd
    by_cases hi : i < n.toNat
    · rw [List.getElem?_eq_getElem (by simpa using hi), List.getElem_range] at hd
      cases hd
      rw [show (0 + (i : Int) * 1) = (i : Int) by omega]
      exact .int_mk
    · rw [List.getElem?_eq_none (by simpa using hi)] at hd; cases hd

/-! ## sums -/
theorem Reps.ints {N : Addr → Prop} {h : Heap} : ∀ {r : List Int} {vs : List Value}, Reps N h (r.map .int) vs → IntsAre vs r
  | [], vs, x => by simp only [List.map_nil, Reps] at x; subst x; exact .nil
  | n :: r, vs, x => by
    simp only [List.map_cons, Reps] at x
    obtain ⟨v, vs', rfl, a, b⟩ := x
    obtain ⟨t, rfl⟩ := a.int_inv
    exact .cons n t b.ints
theorem Op.sumI {r : List Int} : Op w k (fun vs => call (.builtin "sum") vs) [.list (r.map .int)] (.int r.sum) := fun N A s E vs R G al x => by
  obtain ⟨v, rfl, y⟩ := Reps.one_inv x
  obtain ⟨a, vs, rfl, na, l, rs⟩ := y.list_inv
  have hi := rs.ints
  obtain ⟨xs, e⟩ := hi.allInts.items
  have hns : r = xs.toList.map (·.1) := by
    rw [← hi.numsOf, ← nums_intItems, ← e]
  rw [e] at l
  refine sum_intListG R.2.2 l fun h' tk t' hk => ?_
  have es : preSum (numAt xs) xs.size = r.sum := by
    rw [preSum_eq, List.take_of_length_le (by simp), hns]
  rw [es]
  exact ⟨.int_mk, kMk hk⟩

/-! ## slices by steps -/
def pickL {α : Type} (l : List α) (lo hi st : Option Int) : List α :=
  (sliceRange (sliceBounds lo hi st l.length).1 (sliceBounds lo hi st l.length).2.1 (sliceBounds lo hi st l.length).2.2).filterMap (l[·]?)
theorem Reps.pick {N : Addr → Prop} {h : Heap} {ds : List D} {vs : List Value} (r : Reps N h ds vs) : ∀ (is : List Nat), Reps N h (is.filterMap (ds[·]?)) (is.filterMap (vs[·]?))
  | [] => by simpa using Reps.nil
  | i :: is => by
    have ih := Reps.pick r is
    cases hd : ds[i]? with
    | none =>
      have : vs[i]? = none := by rw [List.getElem?_eq_none_iff] at hd ⊢; rw [r.length]; exact hd
      simpa [hd, this] using ih
    | some d =>
      obtain ⟨v, hv, rv⟩ := r.get hd
      simp only [List.filterMap_cons, hd, hv]
      exact .cons rv ih
theorem Sli.step {ds : List D} {lo hi : Option Int} {c : Int} (hc : c ≠ 0) (h : ds.length ≤ 16777216) : Sli w k (.list ds) lo hi (some c) (.list (pickL ds lo hi (some c))) := fun N A s E v b l u t R G al r hl hu ht hs => by
  obtain ⟨a, vs, rfl, na, ll, rs⟩ := r.list_inv
  refine ⟨"list", _, list_getitem_lookup, ll.typeIs, wpAny_getItem_list_slice ll hs hl hu ht (by simpa using hc) ?_ (by rw [sizeLine_eq]; simp [rs.length]; omega)⟩
  have e : slicePick vs.toArray lo hi (some c) = (pickL vs lo hi (some c)).toArray := by
    unfold slicePick pickL
    simp
  rw [e]
  refine ⟨.list_mk (vs := pickL vs lo hi (some c)) al.fresh ⟨_, Heap.get?_push_size _ rfl, rfl, 0, rfl⟩ (Reps.keeps ?_ fun _ _ e => Heap.get?_push_of_some _ e), kPush _⟩
  unfold pickL
  rw [rs.length]
  exact rs.pick _
theorem pickL_rev {α : Type} (l : List α) : pickL l none none (some (-1)) = l.reverse := by
  unfold pickL
  rw [krv_bounds, krv_sliceRange, krv_range, List.filterMap_reverse]
  congr 1
  have : ∀ n, n ≤ l.length → (List.range n).filterMap (l[·]?) = l.take n := by
    intro n
    induction n with
    | zero => intro _; simp
    | succ n ih =>
      intro h
      rw [List.range_succ, List.filterMap_append, ih (by omega), take_succ' (by omega)]
      simp [List.getElem?_eq_getElem (show n < l.length by omega)]
  rw [this _ (Nat.le_refl _), List.take_length]
end
end Mine
end

section
open PySem PySem.W PyProof.Rows PySem.Calls
set_option maxRecDepth 100000
namespace Mine
open Builtin

theorem plain_issubclass_nested : plainId "issubclass.nested" = true := by decide +kernel
theorem kind_issubclass_nested : builtinKind "issubclass.nested" = none := by decide +kernel
theorem args_issubclass_nested_3 (a b c : Value) : argsOk "issubclass.nested" ⟨[a, b, c], []⟩ := by unfold argsOk; kernel_rfl

theorem subNested {T : String} {b : Bool} {M : Model} {A : Around} {E : Value → Shared → Prop} {s : Shared} {k : Value} {dep : Int} {tk : Tok} {Q : PySem.Fin → Shared → Prop} (hk : k = .int dep tk) (hm : typeOf (.type T) = pure (.type "type"))
    (hself : isSubtype (.type "bytes") (.type T) = pure b) (hq : Q (.done (.ret (.bool b))) s) :
    wpAny M A (Builtin.«issubclass.nested» ⟨[.type "bytes", .type T, k], []⟩) Q E s := by
  subst hk
  unfold Builtin.«issubclass.nested»
  refine wpAny_bind (wpAny_of_eq hm ?_)
  refine if_yes rfl ?_
  refine wpAny_bind ?_
  refine wpAny_bind (wpAny_of_eq (a := true) rfl ?_)
  refine wpAny_bind (wpAny_of_eq (a := true) rfl ?_)
  refine if_yes rfl ?_
  refine wpAny_of_eq hself ?_
  exact wpAny_pure hq

theorem callSubNested {prog : Program} {w : World} {T : String} {b : Bool} {A : Around} {E : Value → Shared → Prop} {s : Shared} {dep : Int} {Q : Value → Shared → Prop} (hm : typeOf (.type T) = pure (.type "type"))
    (hself : isSubtype (.type "bytes") (.type T) = pure b) (hq : Q (.bool b) s) :
    wpAny (model prog w) A (call (.builtin "issubclass.nested") [.type "bytes", .type T, rawInt dep]) Q E s :=
  call_function_meets kind_issubclass_nested plain_issubclass_nested PySem.F.entry_issubclass_nested (args_issubclass_nested_3 _ _ _) (S := fun _ R s => R (.ok (.ret (.bool b))) s)
    (fun prog w A R s h => subNested (k := rawInt dep) rfl hm hself h) hq

theorem call_sub_str_bytes {w : World} {A : Around} {E : Value → Shared → Prop} {s : Shared} {tp : Addr} {Q : Value → Shared → Prop} (ht : s.heap.IsTuple tp #[.type "str", .type "bytes"]) (hq : Q (.bool true) s) :
    wpAny (model PG w) A (call (.builtin "issubclass") [.type "bytes", .ref tp]) Q E s := by
  refine call_issubclass (S := fun A R s => s.heap.IsTuple tp #[.type "str", .type "bytes"] ∧ R (.ok (.ret (.bool true))) s) (fun prog w A R s h => issubclass_outer ?_) ⟨ht, hq⟩
  obtain ⟨ht, hR⟩ := h
  have hT : s.TypeIs (.ref tp) "tuple" := let ⟨o, ho, hc, _⟩ := ht; ⟨o, ho, hc⟩
  obtain ⟨o, ho, hc, n, hd⟩ := id ht
  unfold Builtin.«issubclass.nested»
  refine wpAny_bind (wpAny_typeOf hT ?_)
  refine if_no rfl ?_
  refine wpAny_bind ?_
  unfold Builtins.unionMembers
  refine wpAny_bind (wpAny_typeOf hT ?_)
  refine if_no (by decide) ?_
  refine wpAny_pure ?_
  refine wpAny_bind (wpAny_isInstance hT PySem.F.isi_sub_tuple ?_)
  refine if_yes rfl ?_
  refine wpAny_ite ?_
  rw [if_neg (by decide)]
  refine wpAny_bind (wpAny_seqItems ho hd ?_)
  refine wpAny_bind ?_
  show wpAny _ _ (forIn (#[Value.type "str", Value.type "bytes"] : Array Value) _ _) _ _ _
  rw [← Array.forIn_toList, List.forIn_cons]
  refine wpAny_bind (wpAny_bind (callSubNested PySem.F.isi_meta_str PySem.F.sub_bytes_str ?_))
  refine wpAny_bind (m := truthy (.bool false)) (wpAny_pure ?_)
  refine wpAny_pure ?_
  show wpAny _ _ (forIn [Value.type "bytes"] _ _) _ _ _
  rw [List.forIn_cons]
  refine wpAny_bind (wpAny_bind (callSubNested PySem.F.isi_meta_bytes PySem.F.sub_bytes_bytes ?_))
  refine wpAny_bind (m := truthy (.bool true)) (wpAny_pure ?_)
  exact wpAny_bind (wpAny_pure (wpAny_pure (wpAny_pure (wpAny_pure hR))))

section
variable {w : World} {k : Nat}
theorem Op.issub : Op w k (fun vs => call (.builtin "issubclass") vs) [.val (.type "bytes"), .tuple [.val (.type "str"), .val (.type "bytes")]] (.bool true) := fun N A s E vs R G al r => by
  obtain ⟨v, u, rfl, x, y⟩ := r.two_inv
  obtain rfl := x.val_inv
  obtain ⟨a, vs, rfl, na, l, rs⟩ := y.tuple_inv
  obtain ⟨v1, v2, rfl, x1, x2⟩ := Reps.two_inv rs
  obtain rfl := x1.val_inv
  obtain rfl := x2.val_inv
  exact call_sub_str_bytes l ⟨.val_mk, kRefl s⟩
theorem Op.isinstB {b : List UInt8} : Op w k (fun vs => call (.builtin "isinstance") vs) [.bytes b, .val (.type "bytes")] (.bool true) := fun N A s E vs R G al r => by
  obtain ⟨v, u, rfl, x, y⟩ := r.two_inv
  obtain ⟨t, rfl⟩ := x.bytes_inv
  obtain rfl := y.val_inv
  exact call_isinstance_yes (typeIs_bytes _ _ _) PySem.F.isi_meta_bytes PySem.F.sub_bytes_bytes ⟨.val_mk, kRefl s⟩
theorem Op.typeB {b : List UInt8} : Op w k (fun vs => call (.type "type") vs) [.bytes b] (.val (.type "bytes")) := fun N A s E vs R G al r => by
  obtain ⟨v, rfl, x⟩ := r.one_inv
  obtain ⟨t, rfl⟩ := x.bytes_inv
  exact call_type_of (typeIs_bytes _ _ _) (by decide) ⟨.val_mk, kRefl s⟩
end
end Mine
end

section
open PySem PySem.W PyProof.Rows PySem.Calls
set_option maxRecDepth 100000
namespace Mine

theorem FreeOk.one {env : Env} {scope : Scope} {x y : Str} {c : Addr} {ρ : Ctx} {d : D} (at' : At ρ y d) (hp : d.plain = true)
    (clos : closureFor scope env = pure [(y, c)] := by with_unfolding_all rfl) (hc : env.cells.lookup y = some c := by with_unfolding_all rfl) (hk : (env.kindOf y == some .local) = false := by with_unfolding_all rfl)
    (hr : ((relabel scope env).names.lookup y == some .cell || (relabel scope env).names.lookup y == some .free) = true := by with_unfolding_all rfl)
    (hxy : (x == y) = false := by decide) (h1 : (x == ("__debug__" : Str)) = false := by decide) (h2 : (x == ("__classdict__" : Str)) = false := by decide) : FreeOk env scope [(y, c)] x ρ [(y, d)] where
  clos := clos
  cells := fun z c' h => by
    rw [List.lookup_cons] at h
    split at h
    · rename_i hz
      rw [eq_of_beq hz]; cases h; exact hc
    · cases h
  mem := fun e he => by
    rw [List.mem_singleton.1 he]
    refine ⟨at'.mem, hp, fun h => ?_, ?_, ?_⟩
    · rw [h] at hk; simp at hk
    · simpa using hr
    · simp
  nodup := by
    have : x ≠ y := fun h => by rw [h] at hxy; simp at hxy
    simp [this]
  dbg := ⟨h1, h2⟩

section
variable {w : World} {O : Addr → Prop} {k : Nat} {env : Env} {ρ : Ctx}

open Classical in
theorem Ev.comp {α : Type} {elt iter : Expr} {x : Str} {px : Pos} {ifs : List Expr} {scope : Scope} {pos : Pos} {cl : List (Str × Addr)} {ρf : Ctx} {dv : D} (enc : α → D) (inj : ∀ a b, enc a = enc b → a = b) (as : List α) (q : α → Bool) (G : α → D)
    (ev : Ev w k env ρ iter dv) (it : Its w k dv (as.map enc)) (FO : FreeOk env scope cl x ρ ρf)
    (tests : ∀ a ∈ as, ∀ (h₀ : Heap) (N O : Addr → Prop) (C : Addr) (A : Around) (s : Shared) (E : Value → Shared → Prop), Room k A → St h₀ N O (compEnvC scope cl C env) s.heap ((x, enc a) :: ρf) →
      wpAny (model PG w) A (forIn ifs true fun c r => if r = true then do let ok ← isTrue c (compEnvC scope cl C env) (eval c (compEnvC scope cl C env)); pure (ForInStep.yield ok) else pure (ForInStep.yield r)) (fun ok s' => ok = q a ∧ Keeps s s') E s)
    (elts : ∀ a ∈ as, q a = true → ∀ C, Ev w k (compEnvC scope cl C env) ((x, enc a) :: ρf) elt (G a))
    (hcell : ∀ y ∈ scope.names, y.2 ≠ .cell := by decide) (hkind : scope.kind = .function := by with_unfolding_all rfl)
    (hnames : ∀ y ∈ scope.names, y.2 = .local → scope.names.lookup y.1 = some .local := by decide) (hx : scope.names.lookup x = some .local := by with_unfolding_all rfl)
    (hs : ∀ x, foldedSetIterable iter env x = pure x := by intro _; with_unfolding_all rfl) :
    Ev w k env ρ (.ListComp elt [⟨.Name x px, iter, ifs, 0⟩] scope pos) (.list ((as.filter q).map G)) := by
  have dec : ∀ a, (if h : ∃ b, enc b = enc a then G h.choose else D.undef) = G a := fun a => by
    have h : ∃ b, enc b = enc a := ⟨a, rfl⟩
    rw [dif_pos h, inj _ _ h.choose_spec]
  have decp : ∀ a, (if h : ∃ b, enc b = enc a then q h.choose else false) = q a := fun a => by
    have h : ∃ b, enc b = enc a := ⟨a, rfl⟩
    rw [dif_pos h, inj _ _ h.choose_spec]
  have main := Ev.listcomp (w := w) (k := k) (env := env) (ρ := ρ) (elt := elt) (iter := iter) (x := x) (px := px) (ifs := ifs) (scope := scope) (pos := pos) (cl := cl) (ρf := ρf) (dv := dv) (ds := as.map enc)
    (fun d => if h : ∃ b, enc b = d then q h.choose else false) (fun d => if h : ∃ b, enc b = d then G h.choose else D.undef) ev it FO
    (fun d hd => by
      obtain ⟨a, ha, rfl⟩ := List.mem_map.1 hd
      intro h₀ N O C A s E R S
      rw [decp a]
      exact tests a ha h₀ N O C A s E R S)
    (fun d hd hp C => by
      obtain ⟨a, ha, rfl⟩ := List.mem_map.1 hd
      rw [decp a] at hp
      rw [dec a]
      exact elts a ha hp C)
    hcell hkind hnames hx hs
  have e : ((as.map enc).filter (fun d => if h : ∃ b, enc b = d then q h.choose else false)).map (fun d => if h : ∃ b, enc b = d then G h.choose else D.undef) = (as.filter q).map G := by
    rw [List.filter_map, List.map_map]
    have e1 : ((fun d => if h : ∃ b, enc b = d then q h.choose else false) ∘ enc) = q := funext fun a => decp a
    have e2 : ((fun d => if h : ∃ b, enc b = d then G h.choose else D.undef) ∘ enc) = G := funext fun a => dec a
    rw [e1, e2]
  rw [e] at main
  exact main

theorem Ev.comp0 {α : Type} {elt iter : Expr} {x : Str} {px : Pos} {scope : Scope} {pos : Pos} {cl : List (Str × Addr)} {ρf : Ctx} {dv : D} (enc : α → D) (inj : ∀ a b, enc a = enc b → a = b) (as : List α) (G : α → D)
    (ev : Ev w k env ρ iter dv) (it : Its w k dv (as.map enc)) (FO : FreeOk env scope cl x ρ ρf)
    (elts : ∀ a ∈ as, ∀ C, Ev w k (compEnvC scope cl C env) ((x, enc a) :: ρf) elt (G a))
    (hcell : ∀ y ∈ scope.names, y.2 ≠ .cell := by decide) (hkind : scope.kind = .function := by with_unfolding_all rfl)
    (hnames : ∀ y ∈ scope.names, y.2 = .local → scope.names.lookup y.1 = some .local := by decide) (hx : scope.names.lookup x = some .local := by with_unfolding_all rfl)
    (hs : ∀ x, foldedSetIterable iter env x = pure x := by intro _; with_unfolding_all rfl) :
    Ev w k env ρ (.ListComp elt [⟨.Name x px, iter, [], 0⟩] scope pos) (.list (as.map G)) := by
  have := Ev.comp (w := w) (k := k) (env := env) (ρ := ρ) (elt := elt) (px := px) (pos := pos) enc inj as (fun _ => true) G ev it FO
    (fun a ha h₀ N O C A s E R S => by rw [List.forIn_nil]; exact wpAny_pure ⟨rfl, kRefl s⟩) (fun a ha _ C => elts a ha C) hcell hkind hnames hx hs
  rw [List.filter_eq_self.2 (by simp)] at this; exact this

theorem Ev.comp1 {α : Type} {elt iter c : Expr} {x : Str} {px : Pos} {scope : Scope} {pos : Pos} {cl : List (Str × Addr)} {ρf : Ctx} {dv : D} (enc : α → D) (inj : ∀ a b, enc a = enc b → a = b) (as : List α) (q : α → Bool) (G : α → D)
    (ev : Ev w k env ρ iter dv) (it : Its w k dv (as.map enc)) (FO : FreeOk env scope cl x ρ ρf)
    (test : ∀ a ∈ as, ∀ C, Tst w k (compEnvC scope cl C env) ((x, enc a) :: ρf) c (q a))
    (elts : ∀ a ∈ as, q a = true → ∀ C, Ev w k (compEnvC scope cl C env) ((x, enc a) :: ρf) elt (G a))
    (hcell : ∀ y ∈ scope.names, y.2 ≠ .cell := by decide) (hkind : scope.kind = .function := by with_unfolding_all rfl)
    (hnames : ∀ y ∈ scope.names, y.2 = .local → scope.names.lookup y.1 = some .local := by decide) (hx : scope.names.lookup x = some .local := by with_unfolding_all rfl)
    (hs : ∀ x, foldedSetIterable iter env x = pure x := by intro _; with_unfolding_all rfl) :
    Ev w k env ρ (.ListComp elt [⟨.Name x px, iter, [c], 0⟩] scope pos) (.list ((as.filter q).map G)) := by
  refine Ev.comp (w := w) (k := k) (env := env) (ρ := ρ) (elt := elt) (px := px) (pos := pos) enc inj as q G ev it FO
    (fun a ha h₀ N O C A s E R S => ?_) elts hcell hkind hnames hx hs
  rw [List.forIn_cons]
  refine wpAny_bind ?_
  refine if_yes rfl ?_
  refine wpAny_bind (wpAny_mono (test a ha C h₀ N O A s E R S) (fun ok s' h => ?_) fun _ _ x => x)
  refine wpAny_pure ?_
  show wpAny _ A (forIn [] ok _) _ E s'
  rw [List.forIn_nil]
  exact wpAny_pure h
end

theorem inj_bytes : ∀ a b : List UInt8, D.bytes a = D.bytes b → a = b := fun a b h => by cases h; rfl
theorem inj_int : ∀ a b : Int, D.int a = D.int b → a = b := fun a b h => by cases h; rfl
theorem inj_map {α : Type} (f : α → D) (hf : ∀ a b, f a = f b → a = b) : ∀ a b : List α, a.map f = b.map f → a = b
  | [], [], _ => rfl
  | x :: a, y :: b, h => by
    simp only [List.map_cons, List.cons.injEq] at h
    rw [hf _ _ h.1, inj_map f hf a b h.2]
  | [], _ :: _, h => by simp at h
  | _ :: _, [], h => by simp at h
theorem inj_encI : ∀ a b : List Int, encI a = encI b → a = b := fun a b h => inj_map _ inj_int a b (D.list.inj h)
theorem inj_encB : ∀ a b : List (List UInt8), encB a = encB b → a = b := fun a b h => inj_map _ inj_bytes a b (D.list.inj h)
end Mine
end

section
open PySem PySem.W PyProof.Rows PySem.Calls
set_option maxRecDepth 100000
namespace Mine

theorem call_cellsV {prog : Program} {w : World} {A : Around} {R : Result → Shared → Prop} {s : Shared} {name : Str} {params : Arguments} {body : List Stmt} {scope : Scope}
    {pm cd doc : Value} {a : Addr} {o : Obj} {args rest : List Value} {binds : Value → List (Str × Value)}
    (hroom : A.depth < recursionLimit) (ho : s.heap.get? a = some o) (hdata : o.data = .func (Calls.docDef name params body scope pm cd doc)) (hlim : s.heap.NoLimit) (hcd : s.heap.CodeRec cd name)
    (hbind : bindArgs (Calls.docDef name params body scope pm cd doc) ⟨args, []⟩ = (newTuple rest >>= fun t => pure (binds t))) (hrest : rest.length ≤ sizeLine)
    (hkind : ∀ t, ∀ x ∈ binds t, ∀ n, scope.names.lookup x.1 = some .local ∨ (scope.names.lookup x.1 = some .cell ∧ ((cellsFrom n scope.names []).lookup x.1).isSome = true))
    (h : ∀ s1 : Shared, s1 = { s with heap := s.heap.push { cls := .type "tuple", data := .seq rest.toArray } } → ∀ h₁ tk, Fr s1.heap s1.heap.objs.size h₁ (bindL (envOfC name scope s1.heap.objs.size a cd).kindOf (binds (.ref s.heap.objs.size)) fun _ => none) →
      Cl s1.heap.objs.size (cellsFrom (s1.heap.objs.size + 1) scope.names []) h₁ (bindC (envOfC name scope s1.heap.objs.size a cd).kindOf (binds (.ref s.heap.objs.size)) fun _ => none) →
      wpAny (model prog w) (A.deeper (envOfC name scope s1.heap.objs.size a cd)) (execs body (envOfC name scope s1.heap.objs.size a cd))
        (fun f s' => R (.ok (.ret (match f with | .ret v => v | _ => .none))) s') (fun _ _ => False) { s1 with heap := h₁, toks := tk })
    (hco : scope.isCoroutine = false := by rfl) (hgen : scope.isGenerator = false := by rfl) (hk : scope.kind = .function := by rfl) :
    codeAny (model prog w) A (.call (.ref a) ⟨args, []⟩) R s := by
  refine codeAny_call_function (fd := Calls.docDef name params body scope pm cd doc) (body := body) hroom ho hdata hco hgen rfl hcd ?_
  rw [hbind]
  refine wpAny_bind (wpAny_newTuple ?_ hrest)
  refine wpAny_pure ?_
  refine wpAny_newFunctionEnv_cells hk (fun x hx => hkind _ x hx _) fun env he s' x => ?_
  subst he
  refine ⟨(hlim.keeps fun b o e => Heap.get?_push_of_some _ e).keeps x.toInCall.keep, codeAny_func ?_⟩
  obtain ⟨h₁, tk, rfl, _⟩ := x.done
  exact wpAny_mono (h _ rfl h₁ tk ⟨x.toInCall.ns, x.toInCall.keep, x.toInCall.fresh⟩ ⟨x.cell, x.apart, x.above⟩) (fun _ _ x => x) (fun _ _ x => x.elim)

theorem Fn.mkV {w : World} {k : Nat} {f : FnRec} {df dr : List D} {d : D} (qs : List Str) (v : Str) (ls : List Str)
    (hb : ∀ pm cd doc vs1 vs2, vs1.length = df.length → vs2.length = dr.length → bindArgs (docDef f.name f.params f.body f.scope pm cd doc) ⟨vs1 ++ vs2, []⟩ = (newTuple vs2 >>= fun t => pure ((qs ++ [v]).zip (vs1 ++ [t]))))
    (hlen0 : qs.length = df.length) (hdr : dr.length ≤ 1000)
    (hok : ((qs ++ [v]) ++ ls).all (fun x => NameOk f.scope x && !(x == ("__debug__" : Str)) && !(x == ("__classdict__" : Str))) = true)
    (hnd : ((qs ++ [v]) ++ ls).Nodup)
    (body : ∀ L a cd, Exs w (fun _ => False) k (fnEnv f L a cd) ((qs ++ [v]).zip (df ++ [.tuple dr]) ++ ls.map fun x => (x, .undef)) f.body (.ret d))
    (hco : f.scope.isCoroutine = false := by rfl) (hgen : f.scope.isGenerator = false := by rfl) (hk : f.scope.kind = .function := by rfl) : Fn w (k + 1) f (df ++ dr) d := by
  intro N A s E a vsAll mg R G al Gn I r
  obtain ⟨o, pm, c, doc, h1, h2, h3, h4⟩ := I
  generalize hps : qs ++ [v] = ps at *
  generalize hds : df ++ [D.tuple dr] = ds at *
  have hlen : ps.length = ds.length := by rw [← hps, ← hds]; simp [hlen0]
  have hok' : ∀ x ∈ ps ++ ls, NameOk f.scope x = true ∧ (x == ("__debug__" : Str)) = false ∧ (x == ("__classdict__" : Str)) = false := fun x hx => by
    have := List.all_eq_true.mp hok x hx
    simp only [Bool.and_eq_true, Bool.not_eq_true'] at this
    exact ⟨this.1.1, this.1.2, this.2⟩
  have hnd1 : ps.Nodup := (List.nodup_append.mp hnd).1
  have hkeys : ∀ {α : Type} (xs : List α), ps.length = xs.length → (ps.zip xs).map (·.1) = ps := fun xs h => by
    rw [List.map_fst_zip]; omega
  obtain ⟨mg0, mb0, G0⟩ := G
  have hva : vsAll.length = df.length + dr.length := by rw [r.length]; simp
  have r1 : Reps N s.heap df (vsAll.take df.length) := by have := r.take df.length; simpa using this
  have r2 : Reps N s.heap dr (vsAll.drop df.length) := by have := r.drop df.length; simpa using this
  have hb' := hb pm c doc (vsAll.take df.length) (vsAll.drop df.length) (by simp; omega) (by simp; omega)
  rw [List.take_append_drop] at hb'
  generalize vsAll.take df.length = vs1 at *
  generalize vsAll.drop df.length = vs2 at *
  have l1 : vs1.length = df.length := r1.length
  have l2 : vs2.length = dr.length := r2.length
  refine wpAny_call (call_cellsV R.depth h2 h3 G0.nolimit h4 hb' (by rw [sizeLine_eq]; omega) (fun t x hx n => ?_) (fun s1 hs1 h₁ tk F X => ?_) hco hgen hk)
  · have hx' : x.1 ∈ ps := by
      have := List.mem_map_of_mem (f := (·.1)) hx
      rwa [hkeys (vs1 ++ [t]) (by rw [hlen, ← hds]; simp [l1])] at this
    have := (hok' x.1 (List.mem_append_left _ hx')).1
    unfold NameOk at this
    simp only [Bool.or_eq_true, Bool.and_eq_true, beq_iff_eq] at this
    rcases this with h | ⟨h5, h6⟩
    · exact .inl h
    · exact .inr ⟨h5, by rw [cellsFrom_some _ _ 0 x.1 [] [] rfl]; exact h6⟩
  · have P : ∀ b o, s.heap.get? b = some o → s1.heap.get? b = some o := by subst hs1; exact fun b o e => Heap.get?_push_of_some _ e
    have tup : s1.heap.IsTuple s.heap.objs.size vs2.toArray := by subst hs1; exact ⟨_, Heap.get?_push_size _ rfl, rfl, _, rfl⟩
    have frn : ¬ N s.heap.objs.size := al.fresh
    have es : s1 = { s with heap := s1.heap } := by subst hs1; rfl
    obtain ⟨mg', mb', G'⟩ : GH s1.heap := ⟨mg0, mb0, G0.keeps P⟩
    have al' : Al N s1.heap := al.keeps P
    have al := al'
    generalize hvs : vs1 ++ [Value.ref s.heap.objs.size] = vs at *
    have hvl : vs.length = ds.length := by rw [← hvs, ← hds]; simp [l1]
    have r : Reps N s1.heap ds vs := by
      rw [← hds, ← hvs]
      exact (r1.keeps P).append (.cons (.tuple_mk frn tup (r2.keeps P)) .nil)
    have S : St s1.heap N (fun _ => False) (fnEnv f s1.heap.objs.size a c) h₁ (ps.zip ds ++ ls.map fun x => (x, .undef)) := by
      refine ⟨hk, rfl, rfl, ⟨mg', mb', G'⟩, fun b o e => ⟨F.keep b o e, ?_⟩, al.keeps F.keep, fun _ h => h.elim, ⟨_, F.ns⟩, fun x c hc => ⟨_, X.cell x c hc⟩, fun x y c hx hy => ?_, ?_, fun e he => ?_, fun e he => ?_⟩
      · rintro (h | h)
        · rcases h with h | ⟨x, h⟩
          · subst h; exact Nat.lt_irrefl _ (Heap.lt_size e)
          · exact Nat.lt_asymm (Heap.lt_size e) (X.above x b (mem_of_lookup h))
        · exact h
      · exact name_of_addr X.apart (mem_of_lookup hx) (mem_of_lookup hy)
      · rw [List.map_append, hkeys ds hlen, List.map_map]
        have : ((fun x : Str × D => x.1) ∘ fun x => (x, D.undef)) = id := rfl
        rw [this, List.map_id]; exact hnd
      · have : e.1 ∈ ps ++ ls := by
          rcases List.mem_append.mp he with h | h
          · exact List.mem_append_left _ (by have := List.mem_map_of_mem (f := (·.1)) h; rwa [hkeys ds hlen] at this)
          · obtain ⟨y, hy, rfl⟩ := List.mem_map.mp h; exact List.mem_append_right _ hy
        exact (hok' _ this).2
      · rcases List.mem_append.mp he with h | h
        · obtain ⟨x, d'⟩ := e
          have hx' : x ∈ ps := by have := List.mem_map_of_mem (f := (·.1)) h; rwa [hkeys ds hlen] at this
          have ok := (hok' x (List.mem_append_left _ hx')).1
          refine ⟨NameOk.slot ok, ?_⟩
          obtain ⟨v, hv, rv⟩ := zip_get r h
          have rv' : Rep N h₁ d' v := rv.keeps F.keep
          have nd' : ((ps.zip vs).map (·.1)).Nodup := by rw [hkeys vs (by omega)]; exact hnd1
          refine .rep (v := v) ?_ rv'
          have ok2 := NameOk.slot (f := f) (L := s1.heap.objs.size) (a := a) (cd := c) ok
          rcases ok2 with hl | ⟨hc, cc, hcc⟩
          · exact .inl ⟨hl, _, F.ns, bindL_get _ _ x v nd' hv hl⟩
          · refine .inr ⟨hc, cc, hcc, ?_⟩
            have := X.cell x cc hcc
            rcases hc with hc | hc
            · have e2 : bindC (envOfC f.name f.scope s1.heap.objs.size a c).kindOf (ps.zip vs) (fun _ => none) x = some v := bindC_get _ _ x v nd' hv hc
              rw [e2] at this; exact this
            · exfalso
              unfold NameOk at ok
              simp only [Bool.or_eq_true, Bool.and_eq_true, beq_iff_eq] at ok
              have hc' : f.scope.names.lookup x = some .free := hc
              rcases ok with ok | ⟨ok, _⟩ <;> rw [hc'] at ok <;> cases ok
        · obtain ⟨y, hy, rfl⟩ := List.mem_map.mp h
          exact ⟨NameOk.slot (hok' y (List.mem_append_right _ hy)).1, .undef⟩
    refine wpAny_mono (body s1.heap.objs.size a c s1.heap N (A.deeper _) _ (fun _ _ => False) R.deeper S) (fun fl s' h => ?_) fun _ _ x => x
    obtain ⟨⟨v, rfl, rv⟩, M⟩ := h
    refine ⟨rv, ?_⟩
    obtain ⟨h', tk', rfl, q⟩ := M
    refine ⟨h', tk', by rw [es], fun b o e => q b o ?_ (F.keep b o (P b o e))⟩
    rintro (h | h)
    · rcases h with h | ⟨x, h⟩
      · subst h; exact Nat.lt_irrefl _ (Heap.lt_size (P _ _ e))
      · exact Nat.lt_asymm (Heap.lt_size (P _ _ e)) (X.above x b (mem_of_lookup h))
    · exact h

section
variable {w : World} {O : Addr → Prop} {k : Nat} {env : Env} {ρ : Ctx}
/-- a try whose body does not raise -/
theorem Ex.try {body : List Stmt} {h0 : ExceptHandler} {hs : List ExceptHandler} {pos : Pos} {o : Out} (x : Exs w O k env ρ body o) : Ex w O k env ρ (.Try body (h0 :: hs) [] [] pos) o := fun h₀ N A s E R S => by
  refine wpAny_Try_except (wpAny_mono (x h₀ N A s (fun _ _ => False) R S) (fun f s' h => ?_) fun _ _ e => e.elim)
  cases o with
  | next ρ' =>
    obtain ⟨⟨rfl, S'⟩, M⟩ := h
    exact wpAny_execs_nil ⟨⟨rfl, S'⟩, M⟩
  | brk ρ' => obtain ⟨⟨rfl, S'⟩, M⟩ := h; exact ⟨⟨rfl, S'⟩, M⟩
  | cont ρ' => obtain ⟨⟨rfl, S'⟩, M⟩ := h; exact ⟨⟨rfl, S'⟩, M⟩
  | ret d => obtain ⟨⟨v, rfl, r⟩, M⟩ := h; exact ⟨⟨v, rfl, r⟩, M⟩

theorem its_tuple {ds : List D} (hsz : ds.length ≤ sizeLine) : Its w k (.tuple ds) ds := fun N A s E v R G al r => by
  obtain ⟨a, vs, rfl, na, l, rs⟩ := r.tuple_inv
  have hv : vs.length = ds.length := rs.length
  obtain ⟨o, ho, hc, n, hd⟩ := id l
  have hlt : a < s.heap.objs.size := Heap.lt_size ho
  refine wpAny_pyIter_tuple l ?_
  have W := Walks.tuple (prog := PG) (w := w) R.2.2 s.heap.objs.size a (Nat.ne_of_lt hlt) vs.toArray
  rw [show vs.toArray.size = ds.length by simpa using hv] at W
  refine ⟨s.heap.objs.size, [s.heap.objs.size, a], [s.heap.objs.size], _, _, rfl, W, ⟨⟨_, Heap.get?_push_size _ rfl, rfl, rfl⟩, ⟨o, Heap.get?_push_of_some _ ho, hc, n, hd⟩⟩, kPush _, ?_, ?_, ?_, ?_, ?_, hsz⟩
  · intro b hb
    show b < (s.heap.push _).objs.size
    rw [Heap.size_push]
    simp only [List.mem_cons, List.mem_nil_iff, or_false] at hb
    rcases hb with rfl | rfl
    · exact Nat.lt_succ_self _
    · exact Nat.lt_succ_of_lt hlt
  · intro b hb
    simp only [List.mem_cons, List.mem_nil_iff, or_false] at hb
    rcases hb with rfl | rfl
    · exact .inl (fresh_none _)
    · exact .inr ⟨na, o, _, n, ho, hd⟩
  · intro b hb
    simp only [List.mem_cons, List.mem_nil_iff, or_false] at hb
    subst hb
    exact fresh_none _
  · rintro i h b o xs n ⟨⟨o', e', _, d'⟩, _⟩ hb e
    simp only [List.mem_cons, List.mem_nil_iff, or_false] at hb
    subst hb
    rw [e] at e'; cases e'; rw [d']; exact fun h => nomatch h
  · intro i u d hP hd
    have hu : vs[i]? = some u := by simpa using hP
    obtain ⟨v', e', r'⟩ := rs.get hd
    rw [hu] at e'; cases e'
    exact r'.keeps fun _ _ e => Heap.get?_push_of_some _ e
end
end Mine
end

section
open PySem PySem.W PyProof.Rows PySem.Calls PySem.SeqAt
set_option maxRecDepth 100000
namespace Mine
open Builtin PySem.MeetsSeq PySem.AutoSeq1 PySem.MeetsSeq3

def cmpL : List (List UInt8) → List (List UInt8) → Ordering
  | [], [] => .eq
  | [], _ :: _ => .lt
  | _ :: _, [] => .gt
  | x :: xs, y :: ys => if x = y then cmpL xs ys else Bytes.order x y

theorem cmpL_nil (xs ys : List (List UInt8)) (i : Nat) (h : xs.length ≤ i ∨ ys.length ≤ i) (hp : xs.take i = ys.take i ∨ True) : (i ≤ xs.length ∧ i ≤ ys.length) →
    cmpL (xs.drop i) (ys.drop i) = if xs.length < ys.length then .lt else if ys.length < xs.length then .gt else .eq := by
  intro ⟨h1, h2⟩
  rcases Nat.lt_trichotomy xs.length ys.length with hl | hl | hl
  · have e1 : xs.drop i = [] := List.drop_eq_nil_of_le (by omega)
    have e2 : ys.drop i = ys[i]'(by omega) :: ys.drop (i + 1) := List.drop_eq_getElem_cons (by omega)
    rw [e1, e2, if_pos hl]; rfl
  · have e1 : xs.drop i = [] := List.drop_eq_nil_of_le (by omega)
    have e2 : ys.drop i = [] := List.drop_eq_nil_of_le (by omega)
    rw [e1, e2, if_neg (by omega), if_neg (by omega)]; rfl
  · have e2 : ys.drop i = [] := List.drop_eq_nil_of_le (by omega)
    have e1 : xs.drop i = xs[i]'(by omega) :: xs.drop (i + 1) := List.drop_eq_getElem_cons (by omega)
    rw [e1, e2, if_neg (by omega), if_pos hl]; rfl

theorem slot_bytes_lt : PySem.Slot "bytes" (cmpInfo .Lt).2.1 "bytes.__lt__" :=
  .of (owner := "bytes") (n := "__lt__") (by rw [typeLookup_type, builtinLookup_eq_fast]; kernel_rfl) (by decide +kernel) (by decide +kernel) (by decide +kernel)
    (by first | exact .inl (by decide +kernel) | exact .inr (by decide +kernel)) (by rw [isSubtype_type]; kernel_rfl)
theorem entry_bytes_lt : entryFor table "bytes.__lt__" = some Builtin.«bytes.__lt__» := by first | exact entryFor_of_fast (by kernel_rfl) | exact entryFor_of_tree (by kernel_rfl)
theorem args_bytes_lt_2 (a b : Value) : argsOk "bytes.__lt__" ⟨[a, b], []⟩ := by
  unfold argsOk; rw [signature?_of (id := "bytes.__lt__") (n := ['_', '_', 't', 'l', '_', '_']) (o := ['s', 'e', 't', 'y', 'b']) (by kernel_rfl) FB.owner_bytes]; kernel_rfl
theorem gives_bytes_lt (b c : Array UInt8) (t u : Tok) : Gives («bytes.__lt__» ⟨[.bytes b t, .bytes c u], []⟩) (.val (.bool (Bytes.order b.toList c.toList == .lt))) := by
  refine .of_wp fun M A E s Q hq => ?_
  show wpAny M A (isInstance (.bytes c u) (.type "bytes") >>= fun r => _) _ E s
  refine wpAny_bind (wpAny_isInstance (typeIs_bytes s c u) PySem.F.sub_bytes_bytes ?_)
  exact wpAny_pure ⟨_, rfl, hq⟩
theorem loop_lt {N : Addr → Prop} (l b : Addr) (vs vs2 : List Value) (xs ys : List (List UInt8)) (n n2 : Nat) (dd dd2 : Option Addr) (sl sl2 : Array (Option Value)) (k : Nat) :
    ∀ i : Nat, xs.length - i = k → i ≤ xs.length → i ≤ ys.length → Meets (Builtin.«list.__eq__.loop» ⟨[.ref l, .ref b, rawInt i, rawInt 0], []⟩)
      (fun A R s => s.heap.get? l = some { cls := .type "list", dict := dd, data := .seq vs.toArray n, slots := sl } ∧ s.heap.get? b = some { cls := .type "list", dict := dd2, data := .seq vs2.toArray n2, slots := sl2 } ∧
        (Reps N s.heap (xs.map D.bytes) vs ∧ Reps N s.heap (ys.map D.bytes) vs2 ∧ A.in1.units < cLine) ∧
        R (.ok (.ret (.bool (cmpL (xs.drop i) (ys.drop i) == .lt)))) s) := by
  induction k with
  | zero =>
    intro i hk hi1 hi2 prog w A R s h
    obtain ⟨hp, g, d, tk, os⟩ := s; obtain ⟨hl, hb, ⟨r1, r2, hu⟩, h⟩ := h
    have v1 := r1.length; have v2 := r2.length
    rw [List.length_map] at v1 v2
    wp_walk using wpAny_loadPart' hl, wpAny_loadPart' hb
    have hi1 : vs.toArray[((i : Nat) : Int).toNat]? = none := by simp; omega
    rw [hi1]
    wp_walk using wpAny_loadPart' hl, wpAny_loadPart' hb
    rw [cmpL_nil xs ys i (.inl (by omega)) (.inr trivial) (by omega)] at h
    have e : ((if xs.length < ys.length then Ordering.lt else if ys.length < xs.length then .gt else .eq) == .lt) = decide (vs.toArray.size < vs2.toArray.size) := by
      rcases Nat.lt_trichotomy xs.length ys.length with hl | hl | hl
      · rw [if_pos hl]; simp; omega
      · rw [if_neg (by omega), if_neg (by omega)]; simp; omega
      · rw [if_neg (by omega), if_pos hl]; simp; omega
    rw [e] at h
    exact h
  | succ k ih =>
    intro i hk hi1 hi2 prog w A R s h
    obtain ⟨hp, g, d, tk, os⟩ := s; obtain ⟨hl, hb, ⟨r1, r2, hu⟩, h⟩ := h
    have v1 := r1.length; have v2 := r2.length
    rw [List.length_map] at v1 v2
    wp_walk using wpAny_loadPart' hl, wpAny_loadPart' hb
    have hlt : i < xs.length := by omega
    by_cases hlt2 : i < ys.length
    · obtain ⟨x, hx, rx⟩ := r1.get (i := i) (d := .bytes xs[i]) (by rw [List.getElem?_map, List.getElem?_eq_getElem hlt]; rfl)
      obtain ⟨y, hy, ry⟩ := r2.get (i := i) (d := .bytes ys[i]) (by rw [List.getElem?_map, List.getElem?_eq_getElem hlt2]; rfl)
      obtain ⟨t, rfl⟩ := rx.bytes_inv
      obtain ⟨t', rfl⟩ := ry.bytes_inv
      have hx1 : vs.toArray[((i : Nat) : Int).toNat]? = some (.bytes xs[i].toArray t) := by simpa using hx
      have hy1 : vs2.toArray[((i : Nat) : Int).toNat]? = some (.bytes ys[i].toArray t') := by simpa using hy
      have hc : ((i : Int) + 1) = ((i + 1 : Nat) : Int) := by push_cast; rfl
      rw [List.drop_eq_getElem_cons hlt, List.drop_eq_getElem_cons hlt2] at h
      rw [hx1, hy1]
      refine wpAny_bind (eqAt_bytes xs[i] ys[i] t t' prog w _ _ ?_)
      by_cases he : xs[i] = ys[i]
      · have hb' : (xs[i] == ys[i]) = true := by simpa using he
        rw [hb']
        simp only [cmpL, if_pos he] at h
        wp_walk
        rw [hc]
        exact ⟨plainId_quiet plain_eq_loop _, codeAny_builtin entry_eq_loop (by
          rw [Around.under_plainId plain_eq_loop _]
          exact ih (i + 1) (by omega) (by omega) (by omega) prog w A R _ ⟨hl, hb, ⟨r1, r2, hu⟩, h⟩)⟩
      · have hb' : (xs[i] == ys[i]) = false := by simpa using he
        rw [hb']
        simp only [cmpL, if_neg he] at h
        wp_walk using wpAny_loadPart' hl, wpAny_loadPart' hb
        rw [hx1, hy1]
        refine wpAny_bind ?_
        refine richCompare_meets_room (op := .Lt) (typeIs_bytes _ _ _) (typeIs_bytes _ _ _) slot_bytes_lt entry_bytes_lt (args_bytes_lt_2 _ _) (gives_bytes_lt _ _ _ _).meets ?_ hu
        refine ⟨(fun x => nomatch x), ?_⟩
        exact wpAny_pure h
    · have hy1 : vs2.toArray[((i : Nat) : Int).toNat]? = none := by simp; omega
      have hx1 : vs.toArray[((i : Nat) : Int).toNat]? = some (vs[i]'(by omega)) := by simp [show i < vs.length by omega]
      rw [hx1, hy1]
      wp_walk using wpAny_loadPart' hl, wpAny_loadPart' hb
      rw [cmpL_nil xs ys i (.inr (by omega)) (.inr trivial) (by omega)] at h
      have e : ((if xs.length < ys.length then Ordering.lt else if ys.length < xs.length then .gt else .eq) == .lt) = decide (vs.toArray.size < vs2.toArray.size) := by
        rcases Nat.lt_trichotomy xs.length ys.length with hl | hl | hl
        · rw [if_pos hl]; simp; omega
        · rw [if_neg (by omega), if_neg (by omega)]; simp; omega
        · rw [if_neg (by omega), if_pos hl]; simp; omega
      rw [e] at h
      exact h

theorem slot_bytes_gt : PySem.Slot "bytes" (cmpInfo .Gt).2.1 "bytes.__gt__" :=
  .of (owner := "bytes") (n := "__gt__") (by rw [typeLookup_type, builtinLookup_eq_fast]; kernel_rfl) (by decide +kernel) (by decide +kernel) (by decide +kernel)
    (by first | exact .inl (by decide +kernel) | exact .inr (by decide +kernel)) (by rw [isSubtype_type]; kernel_rfl)
theorem entry_bytes_gt : entryFor table "bytes.__gt__" = some Builtin.«bytes.__gt__» := by first | exact entryFor_of_fast (by kernel_rfl) | exact entryFor_of_tree (by kernel_rfl)
theorem args_bytes_gt_2 (a b : Value) : argsOk "bytes.__gt__" ⟨[a, b], []⟩ := by
  unfold argsOk; rw [signature?_of (id := "bytes.__gt__") (n := ['_', '_', 't', 'g', '_', '_']) (o := ['s', 'e', 't', 'y', 'b']) (by kernel_rfl) FB.owner_bytes]; kernel_rfl
theorem gives_bytes_gt (b c : Array UInt8) (t u : Tok) : Gives («bytes.__gt__» ⟨[.bytes b t, .bytes c u], []⟩) (.val (.bool (Bytes.order b.toList c.toList == .gt))) := by
  refine .of_wp fun M A E s Q hq => ?_
  show wpAny M A (isInstance (.bytes c u) (.type "bytes") >>= fun r => _) _ E s
  refine wpAny_bind (wpAny_isInstance (typeIs_bytes s c u) PySem.F.sub_bytes_bytes ?_)
  exact wpAny_pure ⟨_, rfl, hq⟩
theorem loop_gt {N : Addr → Prop} (l b : Addr) (vs vs2 : List Value) (xs ys : List (List UInt8)) (n n2 : Nat) (dd dd2 : Option Addr) (sl sl2 : Array (Option Value)) (k : Nat) :
    ∀ i : Nat, xs.length - i = k → i ≤ xs.length → i ≤ ys.length → Meets (Builtin.«list.__eq__.loop» ⟨[.ref l, .ref b, rawInt i, rawInt 4], []⟩)
      (fun A R s => s.heap.get? l = some { cls := .type "list", dict := dd, data := .seq vs.toArray n, slots := sl } ∧ s.heap.get? b = some { cls := .type "list", dict := dd2, data := .seq vs2.toArray n2, slots := sl2 } ∧
        (Reps N s.heap (xs.map D.bytes) vs ∧ Reps N s.heap (ys.map D.bytes) vs2 ∧ A.in1.units < cLine) ∧
        R (.ok (.ret (.bool (cmpL (xs.drop i) (ys.drop i) == .gt)))) s) := by
  induction k with
  | zero =>
    intro i hk hi1 hi2 prog w A R s h
    obtain ⟨hp, g, d, tk, os⟩ := s; obtain ⟨hl, hb, ⟨r1, r2, hu⟩, h⟩ := h
    have v1 := r1.length; have v2 := r2.length
    rw [List.length_map] at v1 v2
    wp_walk using wpAny_loadPart' hl, wpAny_loadPart' hb
    have hi1 : vs.toArray[((i : Nat) : Int).toNat]? = none := by simp; omega
    rw [hi1]
    wp_walk using wpAny_loadPart' hl, wpAny_loadPart' hb
    rw [cmpL_nil xs ys i (.inl (by omega)) (.inr trivial) (by omega)] at h
    have e : ((if xs.length < ys.length then Ordering.lt else if ys.length < xs.length then .gt else .eq) == .gt) = decide (vs.toArray.size > vs2.toArray.size) := by
      rcases Nat.lt_trichotomy xs.length ys.length with hl | hl | hl
      · rw [if_pos hl]; simp; omega
      · rw [if_neg (by omega), if_neg (by omega)]; simp; omega
      · rw [if_neg (by omega), if_pos hl]; simp; omega
    rw [e] at h
    exact h
  | succ k ih =>
    intro i hk hi1 hi2 prog w A R s h
    obtain ⟨hp, g, d, tk, os⟩ := s; obtain ⟨hl, hb, ⟨r1, r2, hu⟩, h⟩ := h
    have v1 := r1.length; have v2 := r2.length
    rw [List.length_map] at v1 v2
    wp_walk using wpAny_loadPart' hl, wpAny_loadPart' hb
    have hlt : i < xs.length := by omega
    by_cases hlt2 : i < ys.length
    · obtain ⟨x, hx, rx⟩ := r1.get (i := i) (d := .bytes xs[i]) (by rw [List.getElem?_map, List.getElem?_eq_getElem hlt]; rfl)
      obtain ⟨y, hy, ry⟩ := r2.get (i := i) (d := .bytes ys[i]) (by rw [List.getElem?_map, List.getElem?_eq_getElem hlt2]; rfl)
      obtain ⟨t, rfl⟩ := rx.bytes_inv
      obtain ⟨t', rfl⟩ := ry.bytes_inv
      have hx1 : vs.toArray[((i : Nat) : Int).toNat]? = some (.bytes xs[i].toArray t) := by simpa using hx
      have hy1 : vs2.toArray[((i : Nat) : Int).toNat]? = some (.bytes ys[i].toArray t') := by simpa using hy
      have hc : ((i : Int) + 1) = ((i + 1 : Nat) : Int) := by push_cast; rfl
      rw [List.drop_eq_getElem_cons hlt, List.drop_eq_getElem_cons hlt2] at h
      rw [hx1, hy1]
      refine wpAny_bind (eqAt_bytes xs[i] ys[i] t t' prog w _ _ ?_)
      by_cases he : xs[i] = ys[i]
      · have hb' : (xs[i] == ys[i]) = true := by simpa using he
        rw [hb']
        simp only [cmpL, if_pos he] at h
        wp_walk
        rw [hc]
        exact ⟨plainId_quiet plain_eq_loop _, codeAny_builtin entry_eq_loop (by
          rw [Around.under_plainId plain_eq_loop _]
          exact ih (i + 1) (by omega) (by omega) (by omega) prog w A R _ ⟨hl, hb, ⟨r1, r2, hu⟩, h⟩)⟩
      · have hb' : (xs[i] == ys[i]) = false := by simpa using he
        rw [hb']
        simp only [cmpL, if_neg he] at h
        wp_walk using wpAny_loadPart' hl, wpAny_loadPart' hb
        rw [hx1, hy1]
        refine wpAny_bind ?_
        refine richCompare_meets_room (op := .Gt) (typeIs_bytes _ _ _) (typeIs_bytes _ _ _) slot_bytes_gt entry_bytes_gt (args_bytes_gt_2 _ _) (gives_bytes_gt _ _ _ _).meets ?_ hu
        refine ⟨(fun x => nomatch x), ?_⟩
        exact wpAny_pure h
    · have hy1 : vs2.toArray[((i : Nat) : Int).toNat]? = none := by simp; omega
      have hx1 : vs.toArray[((i : Nat) : Int).toNat]? = some (vs[i]'(by omega)) := by simp [show i < vs.length by omega]
      rw [hx1, hy1]
      wp_walk using wpAny_loadPart' hl, wpAny_loadPart' hb
      rw [cmpL_nil xs ys i (.inr (by omega)) (.inr trivial) (by omega)] at h
      have e : ((if xs.length < ys.length then Ordering.lt else if ys.length < xs.length then .gt else .eq) == .gt) = decide (vs.toArray.size > vs2.toArray.size) := by
        rcases Nat.lt_trichotomy xs.length ys.length with hl | hl | hl
        · rw [if_pos hl]; simp; omega
        · rw [if_neg (by omega), if_neg (by omega)]; simp; omega
        · rw [if_neg (by omega), if_pos hl]; simp; omega
      rw [e] at h
      exact h

section
variable {w : World} {A : Around} {E : Value → Shared → Prop} {s : Shared} {N : Addr → Prop}

theorem rc_lt {xs ys : List (List UInt8)} {v u : Value} {Q : Value → Shared → Prop} (x : Rep N s.heap (encB xs) v) (y : Rep N s.heap (encB ys) u) (hu : A.in1.units < cLine) (h : Q (.bool (cmpL xs ys == .lt)) s) :
    wpAny (model PG w) A (richCompare .Lt v u) Q E s := by
  obtain ⟨l, vs, rfl, na, hl, r1⟩ := x.list_inv
  obtain ⟨b, vs2, rfl, nb, hb, r2⟩ := y.list_inv
  obtain ⟨⟨cls, dd, data, sl⟩, ho, hc, n, hd⟩ := id hl
  obtain ⟨⟨cls2, dd2, data2, sl2⟩, ho2, hc2, n2, hd2⟩ := id hb
  simp only at hc hd hc2 hd2
  subst hc hd hc2 hd2
  refine richCompare_meets_room (op := .Lt) (S := fun A R s => s.heap.get? l = some { cls := .type "list", dict := dd, data := .seq vs.toArray n, slots := sl } ∧ s.heap.get? b = some { cls := .type "list", dict := dd2, data := .seq vs2.toArray n2, slots := sl2 } ∧
        (Reps N s.heap (xs.map D.bytes) vs ∧ Reps N s.heap (ys.map D.bytes) vs2 ∧ A.in1.units < cLine) ∧
        R (.ok (.ret (.bool (cmpL xs ys == .lt)))) s) ⟨_, ho, rfl⟩ ⟨_, ho2, rfl⟩ PySem.F.slot_list_lt PySem.F.entry_list_lt (PySem.F.args_list_lt_2 _ _) ?_ ⟨ho, ho2, ⟨r1, r2, hu⟩, ⟨(fun x => nomatch x), h⟩⟩ (Nat.lt_of_le_of_lt (Nat.le_succ _) hu)
  intro prog w A R s h
  obtain ⟨hp, g, d, tk, os⟩ := s; obtain ⟨hl, hb, he, h⟩ := h
  have f3 := AutoSeq1.sub_list_list
  wp_walk using wpAny_loadPart' hl, wpAny_loadPart' hb
  exact ⟨plainId_quiet plain_eq_loop _, codeAny_builtin entry_eq_loop (by
    rw [Around.under_plainId plain_eq_loop _]
    exact loop_lt l b vs vs2 xs ys n n2 dd dd2 sl sl2 _ 0 rfl (Nat.zero_le _) (Nat.zero_le _) prog w A R _ ⟨hl, hb, he, h⟩)⟩

theorem rc_gt {xs ys : List (List UInt8)} {v u : Value} {Q : Value → Shared → Prop} (x : Rep N s.heap (encB xs) v) (y : Rep N s.heap (encB ys) u) (hu : A.in1.units < cLine) (h : Q (.bool (cmpL xs ys == .gt)) s) :
    wpAny (model PG w) A (richCompare .Gt v u) Q E s := by
  obtain ⟨l, vs, rfl, na, hl, r1⟩ := x.list_inv
  obtain ⟨b, vs2, rfl, nb, hb, r2⟩ := y.list_inv
  obtain ⟨⟨cls, dd, data, sl⟩, ho, hc, n, hd⟩ := id hl
  obtain ⟨⟨cls2, dd2, data2, sl2⟩, ho2, hc2, n2, hd2⟩ := id hb
  simp only at hc hd hc2 hd2
  subst hc hd hc2 hd2
  refine richCompare_meets_room (op := .Gt) (S := fun A R s => s.heap.get? l = some { cls := .type "list", dict := dd, data := .seq vs.toArray n, slots := sl } ∧ s.heap.get? b = some { cls := .type "list", dict := dd2, data := .seq vs2.toArray n2, slots := sl2 } ∧
        (Reps N s.heap (xs.map D.bytes) vs ∧ Reps N s.heap (ys.map D.bytes) vs2 ∧ A.in1.units < cLine) ∧
        R (.ok (.ret (.bool (cmpL xs ys == .gt)))) s) ⟨_, ho, rfl⟩ ⟨_, ho2, rfl⟩ PySem.F.slot_list_gt PySem.F.entry_list_gt (PySem.F.args_list_gt_2 _ _) ?_ ⟨ho, ho2, ⟨r1, r2, hu⟩, ⟨(fun x => nomatch x), h⟩⟩ (Nat.lt_of_le_of_lt (Nat.le_succ _) hu)
  intro prog w A R s h
  obtain ⟨hp, g, d, tk, os⟩ := s; obtain ⟨hl, hb, he, h⟩ := h
  have f3 := AutoSeq1.sub_list_list
  wp_walk using wpAny_loadPart' hl, wpAny_loadPart' hb
  exact ⟨plainId_quiet plain_eq_loop _, codeAny_builtin entry_eq_loop (by
    rw [Around.under_plainId plain_eq_loop _]
    exact loop_gt l b vs vs2 xs ys n n2 dd dd2 sl sl2 _ 0 rfl (Nat.zero_le _) (Nat.zero_le _) prog w A R _ ⟨hl, hb, he, h⟩)⟩
end
end Mine
end

section
open PySem PySem.W PyProof.Rows PySem.Calls PySem.SeqAt
set_option maxRecDepth 100000
namespace Mine
open Builtin

theorem min_two {w : World} {A : Around} {E : Value → Shared → Prop} {s : Shared} {N : Addr → Prop} {u v : List (List UInt8)} {a : Addr} {v0 v1 : Value} {Q : Value → Shared → Prop} (hh : A.handled = none) (hu : A.units + 3 < cLine)
    (l : s.heap.IsList a #[v0, v1]) (r0 : Rep N s.heap (encB u) v0) (r1 : Rep N s.heap (encB v) v1)
    (hQ : ∀ h' tk, (∀ b o, s.heap.get? b = some o → h'.get? b = some o) → Q (if cmpL v u == .lt then v1 else v0) { s with heap := h', toks := tk }) :
    wpAny (model PG w) A (call (.builtin "min") [.ref a]) Q E s := by
  have hname : (toString "min" ++ toString ".loop" : String) = "min.loop" := by decide
  have quiet : plainId "min.loop" = true := PySem.F.plain_min_loop
  obtain ⟨oa, hoa, -⟩ := id l
  have alt : a < s.heap.objs.size := Heap.lt_size hoa
  refine call_function_tree PySem.F.kind_min PySem.F.plain_min PySem.F.entry_min (PySem.F.args_min1 _) ?_
  show wpAny _ A.in1 (Builtin.Builtins.bindParams "min" ["key", "default"] 0 ⟨[], []⟩ >>= _) _ _ s
  refine wpAny_bind (wpAny_of_eq (show Builtin.Builtins.bindParams "min" ["key", "default"] 0 ⟨[], []⟩ = pure [none, none] from rfl) ?_)
  refine wpAny_bind (wpAny_pure ?_)
  refine wpAny_bind (wpAny_pyIter_list l ?_)
  have W := Walks.list (prog := PG) (w := w) (A := A.in1) hh s.heap.objs.size a (Nat.ne_of_lt alt) #[v0, v1]
  refine wpAny_bind (wpAny_newObj_type ?_ (Nat.zero_le _))
  rw [hname]
  generalize hI : s.heap.objs.size = I at *
  have hIn : s.heap.get? I = none := hI ▸ fresh_none _
  have es : (s.heap.push { cls := .type "list_iterator", data := .fields #[.ref a, .int 0 0] }).objs.size = I + 1 := by rw [Heap.size_push, hI]
  have hT : (fun (i : Nat) (h : Heap) => h.IsListIter I a i ∧ h.IsList a #[v0, v1]) 0 ((s.heap.push { cls := .type "list_iterator", data := .fields #[.ref a, .int 0 0] }).push { cls := .type "list", data := .seq #[] }) :=
    ⟨⟨_, Heap.get?_push_of_some _ (hI ▸ Heap.get?_push_size _ rfl), rfl, rfl⟩, (l.push _).push _⟩
  have hk0 : ∀ b o, s.heap.get? b = some o → ((s.heap.push { cls := .type "list_iterator", data := .fields #[.ref a, .int 0 0] }).push { cls := .type "list", data := .seq #[] }).get? b = some o := fun b o e => Heap.get?_push_of_some _ (Heap.get?_push_of_some _ e)
  have hS0 : ((s.heap.push { cls := .type "list_iterator", data := .fields #[.ref a, .int 0 0] }).push { cls := .type "list", data := .seq #[] }).get? (I + 1) = some { cls := .type "list", dict := none, data := .seq #[] 0, slots := #[] } := es ▸ Heap.get?_push_size _ rfl
  have hS0n : s.heap.get? (I + 1) = none := above_none (by omega)
  have nIS : I ≠ I + 1 := Nat.ne_of_lt (Nat.lt_succ_self _)
  show wpAny _ _ (pure _) _ _ _
  rw [show ({ s with heap := s.heap.push { cls := .type "list_iterator", data := .fields #[.ref a, .int 0 0] } } : Shared).heap.objs.size = I + 1 from es]
  generalize ((s.heap.push { cls := .type "list_iterator", data := .fields #[.ref a, .int 0 0] }).push { cls := .type "list", data := .seq #[] }) = h1 at *
  have nSa : a ≠ I + 1 := Nat.ne_of_lt (Nat.lt_succ_of_lt alt)
  have keepS : ∀ (h : Heap) (f : Obj → Obj), (∀ b o, s.heap.get? b = some o → h.get? b = some o) → ∀ b o, s.heap.get? b = some o → (h.update (I + 1) f).get? b = some o := fun h f hk b o e => (Heap.get?_update_other _ _ (fun q => by rw [← q, hS0n] at e; cases e)).trans (hk b o e)
  have keepT : ∀ (h : Heap) (f : Obj → Obj) (i : Nat), (h.IsListIter I a i ∧ h.IsList a #[v0, v1]) → ((h.update (I + 1) f).IsListIter I a i ∧ (h.update (I + 1) f).IsList a #[v0, v1]) := fun h f i st =>
    W.frame i h _ st fun b hb o e => (Heap.get?_update_other _ _ (fun q => by
      simp only [List.mem_cons, List.mem_nil_iff, or_false, List.not_mem_nil] at hb
      rcases hb with rfl | rfl
      · exact nIS q.symm
      · exact nSa q.symm)).trans e
  refine wpAny_pure ⟨plainId_quiet quiet _, ?_⟩
  -- the first item
  refine codeAny_builtin PySem.F.entry_min_loop ?_
  rw [Around.under_plainId quiet _]
  show wpAny _ A.in1 (seqItems? (.ref (I + 1)) >>= _) _ _ _
  refine wpAny_bind (wpAny_seqItems hS0 rfl ?_)
  show wpAny _ A.in1 (tryCatch (pyNext (.ref I)) _ >>= _) _ _ _
  refine wpAny_bind (wpAny_tryCatch (W.item 0 _ _ _ (by simp) hT fun x h2 tk hP hT2 hk2 => ?_))
  obtain rfl : x = v0 := by simpa using hP.symm
  have hS2 := hk2 (I + 1) _ (by simp [nIS.symm]) hS0
  have hk2' : ∀ b o, s.heap.get? b = some o → h2.get? b = some o := fun b o e => hk2 b o (by simp; intro q; rw [q, hIn] at e; cases e) (hk0 b o e)
  show wpAny _ A.in1 (updateSeq (I + 1) (fun _ => #[x, x]) >>= _) _ _ _
  refine wpAny_bind ?_
  refine wpAny_updateSeq hS2 rfl ?_
  rw [hname]
  have hS3 := Heap.get?_update_self (Obj.mapSeq fun _ => #[x, x]) hS2 rfl
  have hk3 := keepS h2 (Obj.mapSeq fun _ => #[x, x]) hk2'
  have hT3 := keepT h2 (Obj.mapSeq fun _ => #[x, x]) 1 hT2
  generalize h2.update (I + 1) (Obj.mapSeq fun _ => #[x, x]) = h3 at *
  refine wpAny_pure ⟨plainId_quiet quiet _, ?_⟩
  -- the second
  refine codeAny_builtin PySem.F.entry_min_loop ?_
  rw [Around.under_plainId quiet _]
  show wpAny _ A.in1 (seqItems? (.ref (I + 1)) >>= _) _ _ _
  refine wpAny_bind (wpAny_seqItems hS3 rfl ?_)
  show wpAny _ A.in1 (tryCatch (pyNext (.ref I)) _ >>= _) _ _ _
  refine wpAny_bind (wpAny_tryCatch (W.item 1 _ _ _ (by simp) hT3 fun y h4 tk4 hP4 hT4 hk4 => ?_))
  obtain rfl : y = v1 := by simpa using hP4.symm
  have hS4 := hk4 (I + 1) _ (by simp [nIS.symm]) hS3
  have hk4' : ∀ b o, s.heap.get? b = some o → h4.get? b = some o := fun b o e => hk4 b o (by simp; intro q; rw [q, hIn] at e; cases e) (hk3 b o e)
  show wpAny _ A.in1 (tryCatch (holding [y, y] (richCompare .Lt y x >>= _)) _ >>= _) _ _ _
  refine wpAny_bind (wpAny_tryCatch (wpAny_holding (wpAny_bind (rc_lt (r1.keeps hk4') (r0.keeps hk4') (show A.units + 1 + 1 < cLine by omega) ?_))))
  refine wpAny_bind (wpAny_holding (wpAny_truthy_bool ?_))
  refine wpAny_bind (wpAny_letGo (wpAny_pure ?_))
  have last : ∀ (h : Heap) (z : Value) (c tk : Nat), (h.IsListIter I a 2 ∧ h.IsList a #[x, y]) → (∀ b o, s.heap.get? b = some o → h.get? b = some o) → h.get? (I + 1) = some { cls := .type "list", dict := none, data := .seq #[z, z] c, slots := #[] } →
      (∀ h' tk, (∀ b o, s.heap.get? b = some o → h'.get? b = some o) → Q z { s with heap := h', toks := tk }) →
      codeAny (model PG w) A (.builtin "min.loop" ⟨[.ref I, .none, .ref (I + 1)], []⟩) (wants Q E) { s with heap := h, toks := tk } := fun h z c tk st hk hS hq => by
    refine codeAny_builtin PySem.F.entry_min_loop ?_
    rw [Around.under_plainId quiet _]
    show wpAny _ A.in1 (seqItems? (.ref (I + 1)) >>= _) _ _ _
    refine wpAny_bind (wpAny_seqItems hS rfl ?_)
    show wpAny _ A.in1 (tryCatch (pyNext (.ref I)) _ >>= _) _ _ _
    refine wpAny_bind (wpAny_tryCatch (W.done _ _ _ st fun h5 tk5 hk5 => ?_))
    have hS5 := hk5 (I + 1) _ (by simp [nIS.symm]) hS
    show wpAny _ A.in1 (updateSeq (I + 1) (fun _ => #[]) >>= _) _ _ _
    refine wpAny_bind ?_
    refine wpAny_updateSeq hS5 rfl (wpAny_bind (wpAny_letGo (wpAny_pure ?_)))
    exact hq _ _ (keepS h5 _ fun b o e => hk5 b o (by simp; intro q; rw [q, hIn] at e; cases e) (hk b o e))
  cases hc : (cmpL v u == .lt) with
  | true =>
    rw [hc] at hQ
    simp only [if_true] at hQ ⊢
    refine wpAny_bind ?_
    refine wpAny_updateSeq hS4 rfl (wpAny_bind (wpAny_letGo ?_))
    rw [hname]
    exact wpAny_pure ⟨plainId_quiet quiet _, last _ y _ _ (keepT h4 _ 2 hT4) (keepS h4 _ hk4') (Heap.get?_update_self _ hS4 rfl) hQ⟩
  | false =>
    rw [hc] at hQ
    simp only [Bool.false_eq_true, if_false] at hQ ⊢
    refine wpAny_bind (wpAny_letGo ?_)
    rw [hname]
    exact wpAny_pure ⟨plainId_quiet quiet _, last _ x _ _ hT4 hk4' hS4 hQ⟩
theorem Op.min2 {w : World} {k : Nat} {u v : List (List UInt8)} : Op w k (fun vs => call (.builtin "min") vs) [.list [encB u, encB v]] (encB (if cmpL v u == .lt then v else u)) := fun N A s E vs R G al r => by
  obtain ⟨x, rfl, x1⟩ := Reps.one_inv r
  obtain ⟨a, vs, rfl, na, l, rs⟩ := x1.list_inv
  obtain ⟨v0, v1, rfl, y0, y1⟩ := Reps.two_inv rs
  refine min_two R.2.2 (by have := R.2.1; show A.units + 3 < 9900; omega) l y0 y1 fun h' tk hk => ⟨?_, kMk hk⟩
  split
  · exact y1.keeps hk
  · exact y0.keeps hk

theorem max_two {w : World} {A : Around} {E : Value → Shared → Prop} {s : Shared} {N : Addr → Prop} {u v : List (List UInt8)} {a : Addr} {v0 v1 : Value} {Q : Value → Shared → Prop} (hh : A.handled = none) (hu : A.units + 3 < cLine)
    (l : s.heap.IsList a #[v0, v1]) (r0 : Rep N s.heap (encB u) v0) (r1 : Rep N s.heap (encB v) v1)
    (hQ : ∀ h' tk, (∀ b o, s.heap.get? b = some o → h'.get? b = some o) → Q (if cmpL v u == .gt then v1 else v0) { s with heap := h', toks := tk }) :
    wpAny (model PG w) A (call (.builtin "max") [.ref a]) Q E s := by
  have hname : (toString "max" ++ toString ".loop" : String) = "max.loop" := by decide
  have quiet : plainId "max.loop" = true := PySem.F.plain_max_loop
  obtain ⟨oa, hoa, -⟩ := id l
  have alt : a < s.heap.objs.size := Heap.lt_size hoa
  refine call_function_tree PySem.F.kind_max PySem.F.plain_max PySem.F.entry_max (PySem.F.args_max1 _) ?_
  show wpAny _ A.in1 (Builtin.Builtins.bindParams "max" ["key", "default"] 0 ⟨[], []⟩ >>= _) _ _ s
  refine wpAny_bind (wpAny_of_eq (show Builtin.Builtins.bindParams "max" ["key", "default"] 0 ⟨[], []⟩ = pure [none, none] from rfl) ?_)
  refine wpAny_bind (wpAny_pure ?_)
  refine wpAny_bind (wpAny_pyIter_list l ?_)
  have W := Walks.list (prog := PG) (w := w) (A := A.in1) hh s.heap.objs.size a (Nat.ne_of_lt alt) #[v0, v1]
  refine wpAny_bind (wpAny_newObj_type ?_ (Nat.zero_le _))
  rw [hname]
  generalize hI : s.heap.objs.size = I at *
  have hIn : s.heap.get? I = none := hI ▸ fresh_none _
  have es : (s.heap.push { cls := .type "list_iterator", data := .fields #[.ref a, .int 0 0] }).objs.size = I + 1 := by rw [Heap.size_push, hI]
  have hT : (fun (i : Nat) (h : Heap) => h.IsListIter I a i ∧ h.IsList a #[v0, v1]) 0 ((s.heap.push { cls := .type "list_iterator", data := .fields #[.ref a, .int 0 0] }).push { cls := .type "list", data := .seq #[] }) :=
    ⟨⟨_, Heap.get?_push_of_some _ (hI ▸ Heap.get?_push_size _ rfl), rfl, rfl⟩, (l.push _).push _⟩
  have hk0 : ∀ b o, s.heap.get? b = some o → ((s.heap.push { cls := .type "list_iterator", data := .fields #[.ref a, .int 0 0] }).push { cls := .type "list", data := .seq #[] }).get? b = some o := fun b o e => Heap.get?_push_of_some _ (Heap.get?_push_of_some _ e)
  have hS0 : ((s.heap.push { cls := .type "list_iterator", data := .fields #[.ref a, .int 0 0] }).push { cls := .type "list", data := .seq #[] }).get? (I + 1) = some { cls := .type "list", dict := none, data := .seq #[] 0, slots := #[] } := es ▸ Heap.get?_push_size _ rfl
  have hS0n : s.heap.get? (I + 1) = none := above_none (by omega)
  have nIS : I ≠ I + 1 := Nat.ne_of_lt (Nat.lt_succ_self _)
  show wpAny _ _ (pure _) _ _ _
  rw [show ({ s with heap := s.heap.push { cls := .type "list_iterator", data := .fields #[.ref a, .int 0 0] } } : Shared).heap.objs.size = I + 1 from es]
  generalize ((s.heap.push { cls := .type "list_iterator", data := .fields #[.ref a, .int 0 0] }).push { cls := .type "list", data := .seq #[] }) = h1 at *
  have nSa : a ≠ I + 1 := Nat.ne_of_lt (Nat.lt_succ_of_lt alt)
  have keepS : ∀ (h : Heap) (f : Obj → Obj), (∀ b o, s.heap.get? b = some o → h.get? b = some o) → ∀ b o, s.heap.get? b = some o → (h.update (I + 1) f).get? b = some o := fun h f hk b o e => (Heap.get?_update_other _ _ (fun q => by rw [← q, hS0n] at e; cases e)).trans (hk b o e)
  have keepT : ∀ (h : Heap) (f : Obj → Obj) (i : Nat), (h.IsListIter I a i ∧ h.IsList a #[v0, v1]) → ((h.update (I + 1) f).IsListIter I a i ∧ (h.update (I + 1) f).IsList a #[v0, v1]) := fun h f i st =>
    W.frame i h _ st fun b hb o e => (Heap.get?_update_other _ _ (fun q => by
      simp only [List.mem_cons, List.mem_nil_iff, or_false, List.not_mem_nil] at hb
      rcases hb with rfl | rfl
      · exact nIS q.symm
      · exact nSa q.symm)).trans e
  refine wpAny_pure ⟨plainId_quiet quiet _, ?_⟩
  -- the first item
  refine codeAny_builtin PySem.F.entry_max_loop ?_
  rw [Around.under_plainId quiet _]
  show wpAny _ A.in1 (seqItems? (.ref (I + 1)) >>= _) _ _ _
  refine wpAny_bind (wpAny_seqItems hS0 rfl ?_)
  show wpAny _ A.in1 (tryCatch (pyNext (.ref I)) _ >>= _) _ _ _
  refine wpAny_bind (wpAny_tryCatch (W.item 0 _ _ _ (by simp) hT fun x h2 tk hP hT2 hk2 => ?_))
  obtain rfl : x = v0 := by simpa using hP.symm
  have hS2 := hk2 (I + 1) _ (by simp [nIS.symm]) hS0
  have hk2' : ∀ b o, s.heap.get? b = some o → h2.get? b = some o := fun b o e => hk2 b o (by simp; intro q; rw [q, hIn] at e; cases e) (hk0 b o e)
  show wpAny _ A.in1 (updateSeq (I + 1) (fun _ => #[x, x]) >>= _) _ _ _
  refine wpAny_bind ?_
  refine wpAny_updateSeq hS2 rfl ?_
  rw [hname]
  have hS3 := Heap.get?_update_self (Obj.mapSeq fun _ => #[x, x]) hS2 rfl
  have hk3 := keepS h2 (Obj.mapSeq fun _ => #[x, x]) hk2'
  have hT3 := keepT h2 (Obj.mapSeq fun _ => #[x, x]) 1 hT2
  generalize h2.update (I + 1) (Obj.mapSeq fun _ => #[x, x]) = h3 at *
  refine wpAny_pure ⟨plainId_quiet quiet _, ?_⟩
  -- the second
  refine codeAny_builtin PySem.F.entry_max_loop ?_
  rw [Around.under_plainId quiet _]
  show wpAny _ A.in1 (seqItems? (.ref (I + 1)) >>= _) _ _ _
  refine wpAny_bind (wpAny_seqItems hS3 rfl ?_)
  show wpAny _ A.in1 (tryCatch (pyNext (.ref I)) _ >>= _) _ _ _
  refine wpAny_bind (wpAny_tryCatch (W.item 1 _ _ _ (by simp) hT3 fun y h4 tk4 hP4 hT4 hk4 => ?_))
  obtain rfl : y = v1 := by simpa using hP4.symm
  have hS4 := hk4 (I + 1) _ (by simp [nIS.symm]) hS3
  have hk4' : ∀ b o, s.heap.get? b = some o → h4.get? b = some o := fun b o e => hk4 b o (by simp; intro q; rw [q, hIn] at e; cases e) (hk3 b o e)
  show wpAny _ A.in1 (tryCatch (holding [y, y] (richCompare .Gt y x >>= _)) _ >>= _) _ _ _
  refine wpAny_bind (wpAny_tryCatch (wpAny_holding (wpAny_bind (rc_gt (r1.keeps hk4') (r0.keeps hk4') (show A.units + 1 + 1 < cLine by omega) ?_))))
  refine wpAny_bind (wpAny_holding (wpAny_truthy_bool ?_))
  refine wpAny_bind (wpAny_letGo (wpAny_pure ?_))
  have last : ∀ (h : Heap) (z : Value) (c tk : Nat), (h.IsListIter I a 2 ∧ h.IsList a #[x, y]) → (∀ b o, s.heap.get? b = some o → h.get? b = some o) → h.get? (I + 1) = some { cls := .type "list", dict := none, data := .seq #[z, z] c, slots := #[] } →
      (∀ h' tk, (∀ b o, s.heap.get? b = some o → h'.get? b = some o) → Q z { s with heap := h', toks := tk }) →
      codeAny (model PG w) A (.builtin "max.loop" ⟨[.ref I, .none, .ref (I + 1)], []⟩) (wants Q E) { s with heap := h, toks := tk } := fun h z c tk st hk hS hq => by
    refine codeAny_builtin PySem.F.entry_max_loop ?_
    rw [Around.under_plainId quiet _]
    show wpAny _ A.in1 (seqItems? (.ref (I + 1)) >>= _) _ _ _
    refine wpAny_bind (wpAny_seqItems hS rfl ?_)
    show wpAny _ A.in1 (tryCatch (pyNext (.ref I)) _ >>= _) _ _ _
    refine wpAny_bind (wpAny_tryCatch (W.done _ _ _ st fun h5 tk5 hk5 => ?_))
    have hS5 := hk5 (I + 1) _ (by simp [nIS.symm]) hS
    show wpAny _ A.in1 (updateSeq (I + 1) (fun _ => #[]) >>= _) _ _ _
    refine wpAny_bind ?_
    refine wpAny_updateSeq hS5 rfl (wpAny_bind (wpAny_letGo (wpAny_pure ?_)))
    exact hq _ _ (keepS h5 _ fun b o e => hk5 b o (by simp; intro q; rw [q, hIn] at e; cases e) (hk b o e))
  cases hc : (cmpL v u == .gt) with
  | true =>
    rw [hc] at hQ
    simp only [if_true] at hQ ⊢
    refine wpAny_bind ?_
    refine wpAny_updateSeq hS4 rfl (wpAny_bind (wpAny_letGo ?_))
    rw [hname]
    exact wpAny_pure ⟨plainId_quiet quiet _, last _ y _ _ (keepT h4 _ 2 hT4) (keepS h4 _ hk4') (Heap.get?_update_self _ hS4 rfl) hQ⟩
  | false =>
    rw [hc] at hQ
    simp only [Bool.false_eq_true, if_false] at hQ ⊢
    refine wpAny_bind (wpAny_letGo ?_)
    rw [hname]
    exact wpAny_pure ⟨plainId_quiet quiet _, last _ x _ _ hT4 hk4' hS4 hQ⟩
theorem Op.max2 {w : World} {k : Nat} {u v : List (List UInt8)} : Op w k (fun vs => call (.builtin "max") vs) [.list [encB u, encB v]] (encB (if cmpL v u == .gt then v else u)) := fun N A s E vs R G al r => by
  obtain ⟨x, rfl, x1⟩ := Reps.one_inv r
  obtain ⟨a, vs, rfl, na, l, rs⟩ := x1.list_inv
  obtain ⟨v0, v1, rfl, y0, y1⟩ := Reps.two_inv rs
  refine max_two R.2.2 (by have := R.2.1; show A.units + 3 < 9900; omega) l y0 y1 fun h' tk hk => ⟨?_, kMk hk⟩
  split
  · exact y1.keeps hk
  · exact y0.keeps hk
end Mine
end

section
open PySem PySem.W PyProof.Rows PySem.Calls
set_option maxRecDepth 100000
namespace Mine
open Builtin PySem.AutoSeq1

theorem mro_map : mroOf (.type "map") = pure [.type "map", .type "object"] := by rw [mroOf_type]; kernel_rfl
theorem lookup_map_new : typeLookup (.type "map") "__new__" = pure (some (.builtin "map.__new__")) := by rw [typeLookup_type, builtinLookup_eq_fast]; kernel_rfl
theorem slot_map_init : PySem.Slot "map" "__init__" "object.__init__" :=
  .of (owner := "object") (n := "__init__") (by rw [typeLookup_type, builtinLookup_eq_fast]; kernel_rfl) (by decide +kernel) (by decide +kernel) (by decide +kernel)
    (by first | exact .inl (by decide +kernel) | exact .inr (by decide +kernel)) (by rw [isSubtype_type]; kernel_rfl)
theorem called_map : TypeCalled "map" "map.__new__" "object.__init__" :=
  ⟨by decide +kernel, by decide +kernel, ⟨_, _, mro_map⟩, madeBy_type mro_map lookup_map_new (by decide +kernel), by decide +kernel, by rw [isSubtype_type]; kernel_rfl, slot_map_init⟩
theorem typeCall_map (a b : Value) : checkTypeCall "map" ⟨[a, b], []⟩ = pure () := by kernel_rfl
theorem newCall_map (a b : Value) : checkBuiltinCall "map.__new__" ⟨[.type "map", a, b], []⟩ = pure () := by kernel_rfl
theorem entry_map_new : entryFor table "map.__new__" = some Builtin.«map.__new__» := by first | exact entryFor_of_fast (by kernel_rfl) | exact entryFor_of_tree (by kernel_rfl)
theorem entry_map_next : entryFor table "map.__next__" = some Builtin.«map.__next__» := by first | exact entryFor_of_fast (by kernel_rfl) | exact entryFor_of_tree (by kernel_rfl)
theorem slot_map_next : PySem.Slot "map" "__next__" "map.__next__" :=
  .of (owner := "map") (n := "__next__") (by rw [typeLookup_type, builtinLookup_eq_fast]; kernel_rfl) (by decide +kernel) (by decide +kernel) (by decide +kernel)
    (by first | exact .inl (by decide +kernel) | exact .inr (by decide +kernel)) (by rw [isSubtype_type]; kernel_rfl)
theorem slot_map_iter : PySem.Slot "map" "__iter__" "map.__iter__" :=
  .of (owner := "map") (n := "__iter__") (by rw [typeLookup_type, builtinLookup_eq_fast]; kernel_rfl) (by decide +kernel) (by decide +kernel) (by decide +kernel)
    (by first | exact .inl (by decide +kernel) | exact .inr (by decide +kernel)) (by rw [isSubtype_type]; kernel_rfl)
theorem entry_map_iter : entryFor table "map.__iter__" = some Builtin.«dict_keyiterator.__iter__» := entryFor_alias (id' := "dict_keyiterator.__iter__") (by kernel_rfl) rfl (by decide +kernel) (by kernel_rfl)
theorem args_map_next (a : Value) : argsOk "map.__next__" ⟨[a], []⟩ := by unfold argsOk; kernel_rfl
theorem args_map_iter (a : Value) : argsOk "map.__iter__" ⟨[a], []⟩ := by unfold argsOk; kernel_rfl
theorem nolen_map : typeLookup (.type "map") "__len__" = pure none := by rw [typeLookup_type, builtinLookup_eq_fast]; kernel_rfl
theorem nohint_map : typeLookup (.type "map") "__length_hint__" = pure none := by rw [typeLookup_type, builtinLookup_eq_fast]; kernel_rfl
theorem args_init3 (o a b : Value) : argsOk "object.__init__" ⟨[o, a, b], []⟩ := by unfold argsOk; kernel_rfl
theorem newClass_map (a b : Value) : SmallTypes.newClass "map" ⟨[.type "map", a, b], []⟩ = pure (.type "map", [a, b]) := by
  have h : isSubtype (.type "map") (.type "map") = pure true := by rw [isSubtype_type]; kernel_rfl
  unfold SmallTypes.newClass
  show (do let b1 ← isType (.type "map"); _) = _
  rw [show isType (.type "map") = pure true from rfl]
  simp only [pure_bind]
  rw [h]
  rfl

section
variable {prog : Program} {w : World} {A : Around} {E : Value → Shared → Prop} {s : Shared}
theorem nextOf_item {it l : Addr} {i : Nat} {items} {x : Value} {Q : Value → Shared → Prop} (hit : s.heap.IsListIter it l i) (hl : s.heap.IsList l items) (hx : items[i]? = some x)
    (hQ : ∀ h', h'.IsListIter it l (i + 1) → Heap.SameBut it s.heap h' → Q x { s with heap := h' }) : wpAny (model prog w) A (SmallTypes.nextOf (.ref it)) Q E s := by
  obtain ⟨o, ho, hc, hd⟩ := id hit
  obtain ⟨ol, hol, _, nl, hdl⟩ := hl
  unfold SmallTypes.nextOf
  refine wpAny_bind (wpAny_callSpecial?_slot (name := PySem.Str.ofString "__next__") hit.typeIs slot_listiter_next (wpAny_call_entry slot_listiter_next hit.typeIs entry_listiter_next ?_ (args_listiter_next _)))
  show wpAny _ _ (field (.ref it) 0 >>= _) _ _ s
  refine wpAny_bind (wpAny_field ho hd (x := .ref l) rfl ?_)
  refine if_no rfl ?_
  show wpAny _ _ (field (.ref it) 1 >>= _) _ _ s
  refine wpAny_bind (wpAny_field ho hd (x := .int i 0) rfl ?_)
  refine wpAny_bind (wpAny_seqItems hol hdl ?_)
  simp only [Int.toNat_natCast, hx]
  refine wpAny_bind (wpAny_setField ho hd (by simp) (wpAny_pure ⟨x, rfl, wpAny_pure (hQ _ ?_ (Heap.SameBut.update ..))⟩))
  exact ⟨_, Heap.get?_update_self _ ho (Obj.isFreed_of_fields (Obj.data_mapFields hd _)), (Obj.cls_mapFields ..).trans hc, by
    rw [Obj.data_mapFields hd]; simp [rawInt]⟩
theorem nextOf_end {it l : Addr} {i : Nat} {items} {Q : Value → Shared → Prop} (hh : A.handled = none) (hit : s.heap.IsListIter it l i) (hl : s.heap.IsList l items) (hx : items[i]? = none)
    (hE : ∀ h' e, Heap.ExtBut it s.heap h' → ({ s with heap := h' } : Shared).TypeIs (.ref e) "StopIteration" → E (.ref e) { s with heap := h' }) : wpAny (model prog w) A (SmallTypes.nextOf (.ref it)) Q E s := by
  obtain ⟨o, ho, hc, hd⟩ := id hit
  obtain ⟨ol, hol, _, nl, hdl⟩ := hl
  unfold SmallTypes.nextOf
  refine wpAny_bind (wpAny_callSpecial?_slot (name := PySem.Str.ofString "__next__") hit.typeIs slot_listiter_next (wpAny_call_entry slot_listiter_next hit.typeIs entry_listiter_next ?_ (args_listiter_next _)))
  show wpAny _ _ (field (.ref it) 0 >>= _) _ _ s
  refine wpAny_bind (wpAny_field ho hd (x := .ref l) rfl ?_)
  refine if_no rfl ?_
  show wpAny _ _ (field (.ref it) 1 >>= _) _ _ s
  refine wpAny_bind (wpAny_field ho hd (x := .int i 0) rfl ?_)
  refine wpAny_bind (wpAny_seqItems hol hdl ?_)
  simp only [Int.toNat_natCast, hx]
  refine wpAny_bind (wpAny_rule (wpAny_bind (wpAny_setField ho hd (by simp) ?_)))
  show wpAny _ _ (newExc (.type "StopIteration") [] >>= _) _ _ _
  refine wpAny_bind ?_
  simp only [newExc, newTuple]
  refine wpAny_bind (wpAny_newObj_type ?_ (by size_fits))
  refine wpAny_bind (m := firstArgMember _ _) (wpAny_of_eq (a := Value.none) (by first | rfl | (simp only [firstArgMember]; rfl)) ?_)
  refine wpAny_newObj_type ?_ (by size_fits)
  simp only [raiseNew]
  refine wpAny_bind (wpAny_handled ?_)
  rw [show A.in1.handled = none from hh]
  exact wpAny_bind (wpAny_pure (wpAny_throw (hE _ _ (((Heap.SameBut.update ..).extBut.push _).push _) ⟨_, Heap.get?_push_size _ rfl, rfl⟩)))

theorem call_map {f l : Addr} {items : Array Value} {Q : Value → Shared → Prop} (hl : s.heap.IsList l items)
    (hQ : ∀ h' : Heap, h'.get? s.heap.objs.size = some { cls := .type "list_iterator", data := .fields #[.ref l, .int 0 0] } → h'.get? (s.heap.objs.size + 1) = some { cls := .type "tuple", data := .seq #[.ref s.heap.objs.size] } → h'.get? (s.heap.objs.size + 2) = some { cls := .type "map", data := .fields #[.ref (s.heap.objs.size + 1), .ref f] } →
      (∀ b o, s.heap.get? b = some o → h'.get? b = some o) → h'.objs.size = s.heap.objs.size + 3 → Q (.ref (s.heap.objs.size + 2)) { s with heap := h' }) :
    wpAny (model prog w) A (call (.type "map") [.ref f, .ref l]) Q E s := by
  refine callType_new (S := fun _ R s => s.heap.IsList l items ∧ ∀ h' : Heap, h'.get? s.heap.objs.size = some { cls := .type "list_iterator", data := .fields #[.ref l, .int 0 0] } → h'.get? (s.heap.objs.size + 1) = some { cls := .type "tuple", data := .seq #[.ref s.heap.objs.size] } → h'.get? (s.heap.objs.size + 2) = some { cls := .type "map", data := .fields #[.ref (s.heap.objs.size + 1), .ref f] } →
      (∀ b o, s.heap.get? b = some o → h'.get? b = some o) → h'.objs.size = s.heap.objs.size + 3 → R (.ok (.ret (.ref (s.heap.objs.size + 2)))) { s with heap := h' }) called_map (by decide) (typeCall_map _ _) (newCall_map _ _) (fun o => args_init3 _ _ _) entry_map_new ?_ ⟨hl, fun h' h1 h2 h3 h4 h5 => ⟨⟨_, h3, rfl⟩, hQ h' h1 h2 h3 h4 h5⟩⟩
  intro prog w A R s h
  obtain ⟨hl, hR⟩ := h
  unfold Builtin.«map.__new__»
  refine wpAny_bind (wpAny_of_eq (newClass_map _ _) ?_)
  refine wpAny_bind (wpAny_of_eq (a := ()) rfl ?_)
  refine wpAny_ite ?_
  rw [if_neg (by simp)]
  refine wpAny_bind ?_
  unfold SmallTypes.iterAll
  refine wpAny_bind ?_
  show wpAny _ _ (forIn [Value.ref l] _ _) _ _ _
  rw [List.forIn_cons]
  refine wpAny_bind (wpAny_bind (wpAny_holding (wpAny_pyIter_list hl ?_)))
  refine wpAny_pure ?_
  show wpAny _ _ (forIn ([] : List Value) _ _) _ _ _
  rw [List.forIn_nil]
  refine wpAny_pure (wpAny_pure ?_)
  refine wpAny_bind (wpAny_newObj_type ?_ (by show (1 : Nat) ≤ sizeLine; rw [sizeLine_eq]; decide))
  refine wpAny_bind ?_
  show wpAny _ _ (newObj (.type "map") (.fields #[.ref _, .ref f])) _ _ _
  refine wpAny_newObj_type ?_ (by size_fits)
  refine wpAny_pure ?_
  have e1 : (s.heap.push { cls := .type "list_iterator", data := .fields #[.ref l, .int 0 0] }).objs.size = s.heap.objs.size + 1 := Heap.size_push _ _
  have e2 : ((s.heap.push { cls := .type "list_iterator", data := .fields #[.ref l, .int 0 0] }).push { cls := .type "tuple", data := .seq #[.ref s.heap.objs.size] }).objs.size = s.heap.objs.size + 2 := by rw [Heap.size_push, e1]
  have g1 := Heap.get?_push_size s.heap (o := { cls := .type "list_iterator", data := .fields #[.ref l, .int 0 0] }) rfl
  have g2 := Heap.get?_push_size (s.heap.push { cls := .type "list_iterator", data := .fields #[.ref l, .int 0 0] }) (o := { cls := .type "tuple", data := .seq #[.ref s.heap.objs.size] }) rfl
  have g3 := Heap.get?_push_size ((s.heap.push { cls := .type "list_iterator", data := .fields #[.ref l, .int 0 0] }).push { cls := .type "tuple", data := .seq #[.ref s.heap.objs.size] }) (o := { cls := .type "map", data := .fields #[.ref (s.heap.objs.size + 1), .ref f] }) rfl
  rw [e1] at g2
  rw [e2] at g3
  have := hR (((s.heap.push { cls := .type "list_iterator", data := .fields #[.ref l, .int 0 0] }).push { cls := .type "tuple", data := .seq #[.ref s.heap.objs.size] }).push { cls := .type "map", data := .fields #[.ref (s.heap.objs.size + 1), .ref f] })
    (Heap.get?_push_of_some _ (Heap.get?_push_of_some _ g1)) (Heap.get?_push_of_some _ g2) g3 (fun b o e => Heap.get?_push_of_some _ (Heap.get?_push_of_some _ (Heap.get?_push_of_some _ e))) (by rw [Heap.size_push, e2])
  simp only [e1]
  rw [show ((s.heap.push { cls := .type "list_iterator", data := .fields #[.ref l, .int 0 0] }).push { cls := .type "tuple", data := .seq (((#[] : Array Value).push (.ref s.heap.objs.size)).toList.toArray) }).objs.size = s.heap.objs.size + 2 from e2]
  exact this

/-- what a map over a list's iterator is made of -/
structure MapAt (h : Heap) (M T It l f : Addr) (items : Array Value) (i : Nat) : Prop where
  map : h.get? M = some { cls := .type "map", data := .fields #[.ref T, .ref f] }
  tup : h.get? T = some { cls := .type "tuple", data := .seq #[.ref It] }
  it : h.IsListIter It l i
  list : h.IsList l items

theorem mapNext_body {M T It l f : Addr} {items : Array Value} {i : Nat} {x : Value} {Q : Value → Shared → Prop} (m : MapAt s.heap M T It l f items i) (hx : items[i]? = some x) (d1 : M ≠ It) (d2 : T ≠ It)
    (hf : ∀ h', h'.IsListIter It l (i + 1) → Heap.SameBut It s.heap h' → wpAny (model prog w) A (call (.ref f) [x]) Q E { s with heap := h' }) :
    wpAny (model prog w) A (Builtin.«map.__next__» ⟨[.ref M], []⟩) (fun fin s' => ∃ v, fin = .done (.ret v) ∧ Q v s') E s := by
  unfold Builtin.«map.__next__»
  refine wpAny_bind (wpAny_of_eq (a := (.ref M, [])) rfl ?_)
  show wpAny _ _ (field (.ref M) 0 >>= _) _ _ s
  refine wpAny_bind (wpAny_field m.map rfl (x := .ref T) rfl ?_)
  refine wpAny_bind (wpAny_seqItems m.tup rfl ?_)
  refine wpAny_bind ?_
  rw [← Array.forIn_toList]
  show wpAny _ _ (forIn [Value.ref It] _ _) _ _ _
  rw [List.forIn_cons]
  refine wpAny_bind (wpAny_bind (wpAny_holding (nextOf_item m.it m.list hx fun h' hit hsb => ?_)))
  refine wpAny_pure ?_
  show wpAny _ _ (forIn ([] : List Value) _ _) _ _ _
  rw [List.forIn_nil]
  refine wpAny_pure ?_
  have hm : h'.get? M = some { cls := .type "map", data := .fields #[.ref T, .ref f] } := (hsb.2 M d1).trans m.map
  show wpAny _ _ (field (.ref M) 1 >>= _) _ _ _
  refine wpAny_bind (wpAny_field hm rfl (x := .ref f) rfl ?_)
  refine wpAny_bind (wpAny_holding (wpAny_mono (hf h' hit hsb) (fun v s' hv => ?_) fun _ _ x => x))
  exact wpAny_bind (wpAny_letGo (wpAny_pure ⟨v, rfl, hv⟩))
theorem mapNext_end {M T It l f : Addr} {items : Array Value} {i : Nat} {Q : PySem.Fin → Shared → Prop} (hh : A.handled = none) (m : MapAt s.heap M T It l f items i) (hx : items[i]? = none)
    (hE : ∀ h' e, Heap.ExtBut It s.heap h' → ({ s with heap := h' } : Shared).TypeIs (.ref e) "StopIteration" → E (.ref e) { s with heap := h' }) :
    wpAny (model prog w) A (Builtin.«map.__next__» ⟨[.ref M], []⟩) Q E s := by
  unfold Builtin.«map.__next__»
  refine wpAny_bind (wpAny_of_eq (a := (.ref M, [])) rfl ?_)
  show wpAny _ _ (field (.ref M) 0 >>= _) _ _ s
  refine wpAny_bind (wpAny_field m.map rfl (x := .ref T) rfl ?_)
  refine wpAny_bind (wpAny_seqItems m.tup rfl ?_)
  refine wpAny_bind ?_
  rw [← Array.forIn_toList]
  show wpAny _ _ (forIn [Value.ref It] _ _) _ _ _
  rw [List.forIn_cons]
  exact wpAny_bind (wpAny_bind (wpAny_holding (nextOf_end hh m.it m.list hx hE)))

theorem pyNext_map_item {M T It l f : Addr} {items : Array Value} {i : Nat} {x : Value} {Q : Option Value → Shared → Prop} (m : MapAt s.heap M T It l f items i) (hx : items[i]? = some x) (d1 : M ≠ It) (d2 : T ≠ It)
    (hf : ∀ h', h'.IsListIter It l (i + 1) → Heap.SameBut It s.heap h' → wpAny (model prog w) A.in1 (call (.ref f) [x]) (fun v s' => Q (some v) s') (fun _ _ => False) { s with heap := h' }) :
    wpAny (model prog w) A (pyNext (.ref M)) Q E s := by
  unfold pyNext
  refine wpAny_bind (wpAny_attempt (wpAny_callSpecial?_slot (name := PySem.Str.ofString "__next__") (⟨_, m.map, rfl⟩ : s.TypeIs (.ref M) "map") slot_map_next (wpAny_call_entry slot_map_next (⟨_, m.map, rfl⟩ : s.TypeIs (.ref M) "map") entry_map_next ?_ (args_map_next _))))
  refine wpAny_mono (mapNext_body (E := fun _ _ => False) (Q := fun v s' => Q (some v) s') m hx d1 d2 hf) (fun fin s' h => ?_) fun _ _ x => x.elim
  obtain ⟨v, rfl, hv⟩ := h
  exact ⟨v, rfl, wpAny_pure hv⟩
theorem pyNext_map_end {M T It l f : Addr} {items : Array Value} {i : Nat} {Q : Option Value → Shared → Prop} (hh : A.handled = none) (m : MapAt s.heap M T It l f items i) (hx : items[i]? = none)
    (hQ : ∀ h', Heap.ExtBut It s.heap h' → Q none { s with heap := h' }) :
    wpAny (model prog w) A (pyNext (.ref M)) Q E s := by
  unfold pyNext
  refine wpAny_bind (wpAny_attempt (wpAny_callSpecial?_slot (name := PySem.Str.ofString "__next__") (⟨_, m.map, rfl⟩ : s.TypeIs (.ref M) "map") slot_map_next (wpAny_call_entry slot_map_next (⟨_, m.map, rfl⟩ : s.TypeIs (.ref M) "map") entry_map_next ?_ (args_map_next _))))
  refine mapNext_end hh m hx fun h' e he ht => ?_
  refine wpAny_bind (wpAny_isInstance (T := "StopIteration") (b := true) ht isSubtype_stop ?_)
  exact wpAny_pure (hQ h' he)
theorem pyIter_map {M T It l f : Addr} {items : Array Value} {i : Nat} {Q : Value → Shared → Prop} (m : MapAt s.heap M T It l f items i) (h : Q (.ref M) s) : wpAny (model prog w) A (pyIter (.ref M)) Q E s := by
  have hT : s.TypeIs (.ref M) "map" := ⟨_, m.map, rfl⟩
  refine wpAny_pyIter_slot hT slot_map_iter (wpAny_call_entry slot_map_iter hT entry_map_iter ?_ (args_map_iter _))
  show wpAny _ _ (ret (.ref M)) _ _ s
  exact wpAny_pure ⟨_, rfl, "map", _, hT, slot_map_next.lookup, h⟩
end
end Mine
end

section
open PySem PySem.W PyProof.Rows PySem.Calls
set_option maxRecDepth 100000
namespace Mine
open Builtin PySem.AutoSeq1

theorem Room.near {k : Nat} {A A' : Around} (r : Room (k + 1) A) (h1 : A'.depth = A.depth) (h2 : A'.units ≤ A.units + 30) (h3 : A'.handled = none) : Room k A' := by
  obtain ⟨a, b, c⟩ := r
  exact ⟨by omega, by omega, h3⟩

/-- a function that gives back the bytes it gets -/
def SameFn (w : World) (k : Nat) (hb : Heap) (f : Addr) : Prop :=
  ∀ (A : Around) (s : Shared) (E : Value → Shared → Prop) (b : List UInt8) (t : Tok), Room k A → (∀ c o, hb.get? c = some o → s.heap.get? c = some o) →
    wpAny (model PG w) A (call (.ref f) [.bytes b.toArray t]) (fun v s' => (∃ t', v = .bytes b.toArray t') ∧ Keeps s s') E s

section
variable {w : World} {k : Nat}

theorem map_loop {hb : Heap} {A : Around} {R : Result → Shared → Prop} {M T It l f S : Addr} {xs : List (List UInt8)} {vs : List Value} (F : SameFn w k hb f) (hA : Room k A.in1.in1) (hh : A.handled = none)
    (hv : ∀ (i : Nat) (v : Value), vs[i]? = some v → ∃ b t, xs[i]? = some b ∧ v = .bytes b.toArray t) (hl : vs.length = xs.length) (hsz : xs.length ≤ 1000)
    (d1 : M ≠ It) (d2 : T ≠ It) (e1 : M ≠ S) (e2 : T ≠ S) (e3 : It ≠ S) (e4 : l ≠ S) (e5 : l ≠ It) (bIt : hb.get? It = none) (bS : hb.get? S = none) :
    ∀ (n i : Nat) (s : Shared) (acc : List Value) (c : Nat), xs.length - i = n → i ≤ xs.length → MapAt s.heap M T It l f vs.toArray i → s.heap.get? S = some { cls := .type "list", dict := none, data := .seq acc.toArray c, slots := #[] } →
      (∀ b o, hb.get? b = some o → s.heap.get? b = some o) → acc.length = i → (∀ (j : Nat) (v : Value), acc[j]? = some v → ∃ b t, xs[j]? = some b ∧ v = .bytes b.toArray t) →
      (∀ (h' : Heap) (tk : Nat) (acc' : List Value) (c' : Nat), (∀ b o, hb.get? b = some o → h'.get? b = some o) → h'.get? S = some { cls := .type "list", dict := none, data := .seq acc'.toArray c', slots := #[] } → acc'.length = xs.length → (∀ (j : Nat) (v : Value), acc'[j]? = some v → ∃ b t, xs[j]? = some b ∧ v = .bytes b.toArray t) →
        R (.ok (.ret (.ref S))) { s with heap := h', toks := tk }) →
      codeAny (model PG w) A (.builtin "list.extend.loop" ⟨[.ref S, .ref M, .ref S], []⟩) R s := by
  intro n
  induction n with
  | zero =>
    intro i s acc c hn hi m hS hk ha hacc hR
    have : i = xs.length := by omega
    subst this
    refine codeAny_builtin PySem.F.entry_extend_loop ?_
    rw [Around.under_plainId PySem.F.plain_extend_loop _]
    show wpAny _ A.in1 (pyNext (.ref M) >>= _) _ _ _
    refine wpAny_bind (pyNext_map_end hh m (by simp; omega) fun h' he => ?_)
    refine wpAny_pure ?_
    exact hR h' s.toks acc c (fun b o e => he b o (fun q => by rw [q, bIt] at e; cases e) (hk b o e)) (he S _ e3.symm hS) ha hacc
  | succ n ih =>
    intro i s acc c hn hi m hS hk ha hacc hR
    have hlt : i < vs.length := by omega
    obtain ⟨b, t, hb1, hb2⟩ := hv i vs[i] (List.getElem?_eq_getElem hlt)
    refine codeAny_builtin PySem.F.entry_extend_loop ?_
    rw [Around.under_plainId PySem.F.plain_extend_loop _]
    show wpAny _ A.in1 (pyNext (.ref M) >>= _) _ _ _
    refine wpAny_bind (pyNext_map_item m (x := vs[i]) (by simp [hlt]) d1 d2 fun h1 hit hsb => ?_)
    rw [hb2]
    have hk1 : ∀ b o, hb.get? b = some o → h1.get? b = some o := fun b o e => (hsb.2 b (fun q => by rw [q, bIt] at e; cases e)).trans (hk b o e)
    refine wpAny_mono (F A.in1.in1 { s with heap := h1 } _ b t hA hk1) (fun v s2 hv2 => ?_) fun _ _ x => x
    obtain ⟨⟨t', rfl⟩, K⟩ := hv2
    obtain ⟨h2, tk2, rfl, k2⟩ := K
    have hS2 : h2.get? S = _ := k2 S _ ((hsb.2 S e3.symm).trans hS)
    show wpAny _ A.in1 (updateSeq S (·.push (.bytes b.toArray t')) >>= _) _ _ _
    refine wpAny_bind ?_
    refine wpAny_updateSeq hS2 rfl ?_ (hz := by rw [sizeLine_eq, List.size_toArray, ha]; omega)
    have hS3 := Heap.get?_update_self (Obj.mapSeq (·.push (Value.bytes b.toArray t'))) hS2 (by rw [mapSeq_push]; rfl)
    rw [mapSeq_push, show acc.toArray.push (Value.bytes b.toArray t') = (acc ++ [Value.bytes b.toArray t']).toArray by simp] at hS3
    have oth : ∀ b' o, b' ≠ S → b' ≠ It → s.heap.get? b' = some o → (h2.update S (Obj.mapSeq (·.push (Value.bytes b.toArray t')))).get? b' = some o := fun b' o n1 n2 e =>
      (Heap.get?_update_other _ _ (Ne.symm n1)).trans (k2 b' o ((hsb.2 b' n2).trans e))
    have hit3 : (h2.update S (Obj.mapSeq (·.push (Value.bytes b.toArray t')))).IsListIter It l (i + 1) := by
      obtain ⟨o, ho, r⟩ := hit
      exact ⟨o, (Heap.get?_update_other _ _ e3.symm).trans (k2 It o ho), r⟩
    refine wpAny_pure ⟨plainId_quiet PySem.F.plain_extend_loop _, ?_⟩
    refine ih (i + 1) { s with heap := h2.update S (Obj.mapSeq (·.push (Value.bytes b.toArray t'))), toks := tk2 } (acc ++ [.bytes b.toArray t']) (c + 1) (by omega) (by omega) ⟨oth M _ e1 d1 m.map, oth T _ e2 d2 m.tup, hit3, ?_⟩ hS3
      (fun b' o e => oth b' o (fun q => by rw [q, bS] at e; cases e) (fun q => by rw [q, bIt] at e; cases e) (hk b' o e)) (by simp [ha]) (fun j v hj => ?_) ?_
    · obtain ⟨o, ho, r⟩ := m.list
      exact ⟨o, oth l o e4 e5 ho, r⟩
    · by_cases hj2 : j < acc.length
      · rw [List.getElem?_append_left hj2] at hj
        exact hacc j v hj
      · rw [List.getElem?_append_right (by omega)] at hj
        have : j = i := by
          rcases Nat.lt_or_ge (j - acc.length) 1 with h | h
          · omega
          · rw [List.getElem?_eq_none (by simpa using h)] at hj; cases hj
        subst this
        rw [ha, Nat.sub_self] at hj
        cases hj
        exact ⟨b, t', hb1, rfl⟩
    · intro h' tk acc' c' q1 q2 q3 q4
      exact hR h' tk acc' c' q1 q2 q3 q4

theorem collect_map {hb : Heap} {A : Around} {E : Value → Shared → Prop} {s : Shared} {M T It l f : Addr} {xs : List (List UInt8)} {vs : List Value} {Q : List Value → Shared → Prop} (F : SameFn w k hb f) (hA : Room k A.in1.in1) (hh : A.handled = none)
    (hv : ∀ (i : Nat) (v : Value), vs[i]? = some v → ∃ b t, xs[i]? = some b ∧ v = .bytes b.toArray t) (hl : vs.length = xs.length) (hsz : xs.length ≤ 1000)
    (d1 : M ≠ It) (d2 : T ≠ It) (e5 : l ≠ It) (bIt : hb.get? It = none) (m : MapAt s.heap M T It l f vs.toArray 0) (hk : ∀ b o, hb.get? b = some o → s.heap.get? b = some o)
    (hQ : ∀ (h' : Heap) (tk : Nat) (acc : List Value), (∀ b o, hb.get? b = some o → h'.get? b = some o) → acc.length = xs.length → (∀ (j : Nat) (v : Value), acc[j]? = some v → ∃ b t, xs[j]? = some b ∧ v = .bytes b.toArray t) → Q acc { s with heap := h', toks := tk }) :
    wpAny (model PG w) A (collect (.ref M)) Q E s := by
  have ltM : M < s.heap.objs.size := Heap.lt_size m.map
  have ltT : T < s.heap.objs.size := Heap.lt_size m.tup
  have ltI : It < s.heap.objs.size := let ⟨o, ho, _⟩ := m.it; Heap.lt_size ho
  have ltl : l < s.heap.objs.size := let ⟨o, ho, _⟩ := m.list; Heap.lt_size ho
  unfold collect
  refine wpAny_bind (wpAny_runValue (codeAny_builtin PySem.F.entry_proto_collect ?_))
  rw [Around.under_plainId PySem.F.plain_proto_collect _]
  show wpAny _ A.in1 (newList [] >>= fun l => again (.builtin "list.__iadd__" ⟨[l, .ref M], []⟩)) _ _ s
  refine wpAny_bind (wpAny_newObj_type ?_)
  refine wpAny_pure ⟨plainId_quiet PySem.F.plain_list_iadd _, codeAny_builtin PySem.F.entry_list_iadd ?_⟩
  rw [Around.under_plainId PySem.F.plain_list_iadd _]
  have m1 : MapAt (s.heap.push { cls := .type "list", data := .seq ([] : List Value).toArray }) M T It l f vs.toArray 0 :=
    ⟨Heap.get?_push_of_some _ m.map, Heap.get?_push_of_some _ m.tup, let ⟨o, ho, r⟩ := m.it; ⟨o, Heap.get?_push_of_some _ ho, r⟩, m.list.push _⟩
  have hS1 : (s.heap.push { cls := .type "list", data := .seq ([] : List Value).toArray }).get? s.heap.objs.size = some { cls := .type "list", data := .seq ([] : List Value).toArray } := Heap.get?_push_size _ rfl
  have bS : hb.get? s.heap.objs.size = none := by
    cases e : hb.get? s.heap.objs.size with
    | none => rfl
    | some o => exact absurd (Heap.lt_size (hk _ _ e)) (Nat.lt_irrefl _)
  show wpAny _ A.in1 (Builtin.List.listExtendWith (.ref s.heap.objs.size) (.ref M) (.ref s.heap.objs.size)) _ _ _
  unfold Builtin.List.listExtendWith
  refine wpAny_bind (wpAny_typeOf (T := "map") ⟨_, m1.map, rfl⟩ ?_)
  have h1 : Builtin.List.listSameRef (.ref s.heap.objs.size) (.ref M) = false := by simp [Builtin.List.listSameRef]; exact (Nat.ne_of_lt ltM).symm
  have h2 : (Value.type "map" == Value.type "list") = false := by decide
  have h3 : (Value.type "map" == Value.type "tuple") = false := by decide
  simp only [h1, h2, h3, Bool.or_false, Bool.false_eq_true, if_false]
  refine wpAny_bind (pyIter_map m1 ?_)
  refine wpAny_bind (wpAny_holding ?_)
  unfold Builtin.List.listLengthHint
  refine wpAny_bind (wpAny_specialOf (T := "map") ⟨_, m1.map, rfl⟩ nolen_map ?_)
  show wpAny _ A.in1 (specialOf (Value.ref M) (PySem.Str.ofString "__length_hint__") >>= _) _ _ _
  refine wpAny_bind (wpAny_specialOf (T := "map") ⟨_, m1.map, rfl⟩ nohint_map ?_)
  refine wpAny_pure ?_
  show wpAny _ A.in1 (rule "list.extend.makes-room" >>= fun _ => Builtin.List.listTouch (.ref s.heap.objs.size) >>= fun _ =>
    again (.builtin "list.extend.loop" ⟨[.ref s.heap.objs.size, .ref M, .ref s.heap.objs.size], []⟩)) _ _ _
  refine wpAny_bind (wpAny_rule ?_)
  refine wpAny_bind ?_
  show wpAny _ A.in1 (updateSeq s.heap.objs.size (·.push .none) >>= fun _ => updateSeq s.heap.objs.size (·.pop)) _ _ _
  refine wpAny_bind (wpAny_updateSeq hS1 rfl ?_)
  have hS2 := Heap.get?_update_self (Obj.mapSeq (·.push Value.none)) hS1 rfl
  refine wpAny_updateSeq hS2 rfl ?_
  have hS3 := Heap.get?_update_self (Obj.mapSeq (·.pop)) hS2 rfl
  have oth : ∀ b o, b ≠ s.heap.objs.size → (s.heap.push { cls := .type "list", data := .seq ([] : List Value).toArray }).get? b = some o →
      (((s.heap.push { cls := .type "list", data := .seq ([] : List Value).toArray }).update s.heap.objs.size (Obj.mapSeq (·.push Value.none))).update s.heap.objs.size (Obj.mapSeq (·.pop))).get? b = some o :=
    fun b o hb e => (Heap.get?_update_other _ _ (Ne.symm hb)).trans ((Heap.get?_update_other _ _ (Ne.symm hb)).trans e)
  generalize ((s.heap.push { cls := .type "list", data := .seq ([] : List Value).toArray }).update s.heap.objs.size (Obj.mapSeq (·.push Value.none))).update s.heap.objs.size (Obj.mapSeq (·.pop)) = h3 at *
  have m3 : MapAt h3 M T It l f vs.toArray 0 := ⟨oth M _ (Nat.ne_of_lt ltM) m1.map, oth T _ (Nat.ne_of_lt ltT) m1.tup, let ⟨o, ho, r⟩ := m1.it; ⟨o, oth It o (Nat.ne_of_lt ltI) ho, r⟩, let ⟨o, ho, r⟩ := m1.list; ⟨o, oth l o (Nat.ne_of_lt ltl) ho, r⟩⟩
  refine wpAny_pure ⟨plainId_quiet PySem.F.plain_extend_loop _, map_loop F hA hh hv hl hsz d1 d2 (Nat.ne_of_lt ltM) (Nat.ne_of_lt ltT) (Nat.ne_of_lt ltI) (Nat.ne_of_lt ltl) e5 bIt bS _ 0 { s with heap := h3 } [] _ rfl (Nat.zero_le _) m3 hS3
    (fun b o e => oth b o (fun q => by rw [q, bS] at e; cases e) (Heap.get?_push_of_some _ (hk b o e))) rfl (fun j v hj => by simp at hj) fun h' tk acc c q1 q2 q3 q4 => ?_⟩
  show wpAny _ A (PySem.load s.heap.objs.size >>= _) _ _ _
  refine wpAny_bind (wpAny_load q2 ?_)
  refine wpAny_pure ?_
  exact hQ h' tk acc q1 q3 q4

theorem tuple_map {hb : Heap} {A : Around} {E : Value → Shared → Prop} {s : Shared} {M T It l f : Addr} {xs : List (List UInt8)} {vs : List Value} {Q : Value → Shared → Prop} (F : SameFn w k hb f) (hA : Room (k + 1) A)
    (hv : ∀ (i : Nat) (v : Value), vs[i]? = some v → ∃ b t, xs[i]? = some b ∧ v = .bytes b.toArray t) (hl : vs.length = xs.length) (hsz : xs.length ≤ 1000)
    (d1 : M ≠ It) (d2 : T ≠ It) (e5 : l ≠ It) (bIt : hb.get? It = none) (m : MapAt s.heap M T It l f vs.toArray 0) (hk : ∀ b o, hb.get? b = some o → s.heap.get? b = some o)
    (hQ : ∀ (h' : Heap) (tk : Nat) (acc : List Value), (∀ b o, hb.get? b = some o → h'.get? b = some o) → acc.length = xs.length → (∀ (j : Nat) (v : Value), acc[j]? = some v → ∃ b t, xs[j]? = some b ∧ v = .bytes b.toArray t) →
      Q (.ref h'.objs.size) { s with heap := h'.push { cls := .type "tuple", data := .seq acc.toArray }, toks := tk }) :
    wpAny (model PG w) A (call (.type "tuple") [.ref M]) Q E s := by
  refine callType_codes (Q₁ := fun obj s₁ => s₁.TypeIs obj "tuple" ∧ Q obj s₁) PySem.F.called_tuple (PySem.F.typeCall_tuple_1 _) PySem.F.entry_object_init ?_ fun obj s₁ h₁ => ?_
  · refine codeAny_of_tree ?_
    show wpAny _ A.in1.in1 (do checkBuiltinCall "tuple.__new__" ⟨[.type "tuple", .ref M], []⟩; again (.builtin "tuple.__new__" ⟨[.type "tuple", .ref M], []⟩)) _ _ s
    refine wpAny_bind (wpAny_of_eq (PySem.F.newCall_tuple_1 _) (wpAny_pure ⟨plainId_quiet PySem.F.plain_tuple_new _, codeAny_builtin PySem.F.entry_tuple_new ?_⟩))
    rw [Around.under_plainId PySem.F.plain_tuple_new _]
    have hsub := sub_tuple_self
    have hinit := init_tuple_lookup
    have hmh := madeHere_tuple
    have hTI : s.TypeIs (.ref M) "map" := ⟨_, m.map, rfl⟩
    have col : ∀ {Q : List Value → Shared → Prop} {E' : Value → Shared → Prop}, (∀ (h' : Heap) (tk : Nat) (acc : List Value), (∀ b o, hb.get? b = some o → h'.get? b = some o) → acc.length = xs.length → (∀ (j : Nat) (v : Value), acc[j]? = some v → ∃ b t, xs[j]? = some b ∧ v = .bytes b.toArray t) → Q acc { s with heap := h', toks := tk }) →
        wpAny (model PG w) A.in1.in1 (collect (.ref M)) Q E' s := fun hq => collect_map F (hA.near rfl (by show A.units + 1 + 1 + 1 + 1 ≤ _; omega) hA.2.2) hA.2.2 hv hl hsz d1 d2 e5 bIt m hk hq
    wp_walk using wpAny_typeOf hTI, col
    intro h' tk acc q1 q2 q3
    show wpAny _ _ (Builtin.Tuple.tupleExact acc.toArray >>= fun v => ret v) _ _ _
    unfold Builtin.Tuple.tupleExact
    refine wpAny_bind (wpAny_newObj_type ?_ (by show acc.toArray.size ≤ sizeLine; rw [sizeLine_eq, List.size_toArray, q2]; omega))
    refine wpAny_pure ?_
    exact ⟨⟨_, Heap.get?_push_size _ rfl, rfl⟩, hQ h' tk acc q1 q2 q3⟩
  · exact ⟨h₁.1, PySem.F.args_object_init_2 obj _, object_init_meets PySem.F.called_tuple.init.lookup PySem.F.called_tuple.made (by decide) PG w A.in1 _ s₁ ⟨h₁.1, rfl, h₁.2⟩⟩
end
end Mine
end

section
open PySem PySem.W PyProof.Rows PySem.Calls
set_option maxRecDepth 100000
namespace Mine

section
variable {w : World} {O : Addr → Prop} {k : Nat} {env : Env} {ρ : Ctx}
theorem Ev.tuplemap {p1 p2 p3 p4 pos pos2 : Pos} {fn x : Str} {fr : FnRec} {xs : List (List UInt8)} (F : ∀ b, Fn w k fr [.bytes b] (.bytes b)) (hf : fr ∈ allFns) (hn : fr.name = fn) (at' : At ρ x (.list (xs.map .bytes))) (hsz : xs.length ≤ 1000)
    (h1 : env.kindOf (Str.ofString "tuple") = some .globalImplicit := by with_unfolding_all rfl) (h2 : env.kindOf (Str.ofString "map") = some .globalImplicit := by with_unfolding_all rfl) (h3 : env.kindOf fn = some .globalImplicit := by with_unfolding_all rfl)
    (hd : (fn == ("__debug__" : Str)) = false := by decide)
    (he1 : starEach [.Call (.Name (Str.ofString "map") p2) [.Name fn p3, .Name x p4] [] pos2] env = (false, eval (.Call (.Name (Str.ofString "map") p2) [.Name fn p3, .Name x p4] [] pos2) env) :: starEach [] env := by with_unfolding_all rfl)
    (he2 : starEach [.Name fn p3, .Name x p4] env = (false, eval (.Name fn p3) env) :: starEach [.Name x p4] env := by with_unfolding_all rfl) (he3 : starEach [.Name x p4] env = (false, eval (.Name x p4) env) :: starEach [] env := by with_unfolding_all rfl)
    (hp1 : ∀ pos, (backTo pos (starEach [] env)).any (·.1) = false := by intro _; with_unfolding_all rfl) (hp2 : ∀ pos, (backTo pos (starEach [.Name x p4] env)).any (·.1) = false := by intro _; with_unfolding_all rfl) :
    Ev w (k + 1) env ρ (.Call (.Name (Str.ofString "tuple") p1) [.Call (.Name (Str.ofString "map") p2) [.Name fn p3, .Name x p4] [] pos2] [] pos) (.tuple (xs.map .bytes)) := fun h₀ N O A s E R S => by
  refine Call_ (bltName S h1 (by decide) free_tuple boot_tuple ?_)
  rw [he1]
  refine PySem.callWith_type (by show (false || (backTo pos (starEach [] env)).any (·.1)) = false; rw [hp1]; rfl) ?_
  refine evalArgs_plain (x := eval _ env) (rest := backTo pos (starEach [] env)) ?_
  show wpAny _ A (spliced (backTo pos ((false, eval (.Call (.Name (Str.ofString "map") p2) [.Name fn p3, .Name x p4] [] pos2) env) :: starEach [] env))) _ _ _
  rw [← he1]
  refine args_cons ?_ he1
  refine Call_ (bltName S h2 (by decide) free_map boot_map ?_)
  rw [he2]
  refine PySem.callWith_type (by show (false || (backTo pos2 (starEach [.Name x p4] env)).any (·.1)) = false; rw [hp2]; rfl) ?_
  refine evalArgs_plain (x := eval _ env) (rest := backTo pos2 (starEach [.Name x p4] env)) ?_
  show wpAny _ A (spliced (backTo pos2 ((false, eval (.Name fn p3) env) :: starEach [.Name x p4] env))) _ _ _
  rw [← he2]
  obtain ⟨mg, mb, G⟩ := S.gh
  obtain ⟨f, I⟩ := G.fn fr hf
  have I' := I
  obtain ⟨o, pm, c, doc, i1, i2, i3, i4⟩ := I'
  refine args_cons ?_ he2
  refine Ev.gname S h3 hd (loadGlobal_global (S.globs ▸ G.g) (v := .ref f) (hn ▸ i1) ?_)
  refine wpAny_mono ((Evs.cons (Ev.name at' rfl) .nil (he := he3) : Evs w k env ρ [.Name x p4] [.list (xs.map .bytes)]) h₀ N O A s E pos2 (R.le (Nat.le_succ _)) S) (fun us s₁ h₁ => ?_) fun _ _ x => x
  obtain ⟨v, rfl, rv⟩ := h₁.1.one_inv
  obtain ⟨l, vs, rfl, nl, hl, rs⟩ := rv.list_inv
  have S₁ := S.keeps (kHeap h₁.2)
  have hlt : l < s₁.heap.objs.size := let ⟨o, ho, _⟩ := hl; Heap.lt_size ho
  refine call_map hl fun h' g1 g2 g3 g4 g5 => ?_
  refine args_nil ?_
  have m : MapAt h' (s₁.heap.objs.size + 2) (s₁.heap.objs.size + 1) s₁.heap.objs.size l f vs.toArray 0 := ⟨g3, g2, ⟨_, g1, rfl, rfl⟩, let ⟨o, ho, r⟩ := hl; ⟨o, g4 l o ho, r⟩⟩
  have SF : SameFn w k s₁.heap f := fun A' s' E' b t R' hk' => by
    obtain ⟨mg', mb', G'⟩ := S₁.gh.keeps hk'
    have Is : FnIs mg s'.heap fr f := (I.keeps (kHeap h₁.2)).keeps hk'
    refine wpAny_mono (F b (fun _ => False) A' s' E' f [.bytes b.toArray t] mg R' (S₁.gh.keeps hk') (fun _ h => h.elim) ((G.g.keeps (kHeap h₁.2)).keeps hk') Is (.one .bytes_mk)) (fun v s'' hv => ⟨hv.1.bytes_inv, hv.2⟩) fun _ _ x => x
  have hvl : vs.length = xs.length := by have := rs.length; simpa using this
  have hv : ∀ (i : Nat) (v : Value), vs[i]? = some v → ∃ b t, xs[i]? = some b ∧ v = .bytes b.toArray t := fun i v hv => by
    obtain ⟨d, hd', rd⟩ := rs.at hv
    rw [List.getElem?_map] at hd'
    cases hx : xs[i]? with
    | none => rw [hx] at hd'; cases hd'
    | some b =>
      rw [hx] at hd'; cases hd'
      obtain ⟨t, rfl⟩ := rd.bytes_inv
      exact ⟨b, t, rfl, rfl⟩
  refine tuple_map (s := { s₁ with heap := h' }) SF R hv hvl hsz (Nat.ne_of_gt (by omega)) (Nat.ne_of_gt (by omega)) (Nat.ne_of_lt hlt) (fresh_none _) m g4 fun h2 tk acc q1 q2 q3 => ?_
  have K : Keeps s { s₁ with heap := h2.push { cls := .type "tuple", data := .seq acc.toArray }, toks := tk } := by
    obtain ⟨h1', t1', e1', k1'⟩ := h₁.2
    subst e1'
    exact ⟨_, _, rfl, fun b o e => Heap.get?_push_of_some _ (q1 b o (k1' b o e))⟩
  refine ⟨.tuple_mk (vs := acc) ?_ ⟨_, Heap.get?_push_size _ rfl, rfl, _, rfl⟩ ?_, K⟩
  · intro hb
    obtain ⟨o', e'⟩ := S₁.al _ hb
    exact absurd (Heap.lt_size (q1 _ _ e')) (Nat.lt_irrefl _)
  · have : ∀ (ys : List (List UInt8)) (as : List Value), as.length = ys.length → (∀ (j : Nat) (v : Value), as[j]? = some v → ∃ b t, ys[j]? = some b ∧ v = .bytes b.toArray t) → Reps N (h2.push { cls := .type "tuple", data := .seq acc.toArray }) (ys.map .bytes) as := by
      intro ys
      induction ys with
      | nil => intro as h _; have : as = [] := by simpa using h
               subst this; exact .nil
      | cons y ys ih =>
        intro as h hj
        cases as with
        | nil => simp at h
        | cons a as =>
          obtain ⟨b, t, e, rfl⟩ := hj 0 a rfl
          cases e
          exact .cons .bytes_mk (ih as (by simpa using h) fun j v hv => hj (j + 1) v (by simpa using hv))
    exact this xs acc q2 q3
end
end Mine
end

section
open PySem PySem.W PyProof.Rows PySem.Calls
set_option maxRecDepth 100000
namespace Mine

section
variable {prog : Program} {w : World} {A : Around} {E : Value → Shared → Prop} {s : Shared}
theorem pyHash_bool {b : Bool} {Q : Int → Shared → Prop} (h : Q (if b then 1 else 0) { s with toks := s.toks + 1 }) : wpAny (model prog w) A (pyHash (.bool b)) Q E s := by
  have hT : s.TypeIs (.bool b) "bool" := rfl
  unfold pyHash
  have hv : [Value.bool b].any Value.onHeap = false := rfl
  refine wpAny_bind ?_
  rw [cRoomFor, if_neg (by rw [hv]; exact Bool.false_ne_true)]; refine wpAny_pure ?_
  refine wpAny_bind (wpAny_specialOf hT PySem.F.slot_bool_hash.lookup ?_)
  refine if_no (by decide) ?_
  refine wpAny_bind (wpAny_specialOf hT PySem.F.slot_bool_hash.lookup ?_)
  show wpAny _ _ (callSpecialIfBoundUnlessNone? (.bool b) "__hash__" _ >>= _) Q E s
  refine wpAny_bind (wpAny_callSpecialIfBoundUnlessNone?_slot hT PySem.F.slot_bool_hash
    (wpAny_call_entry PySem.F.slot_bool_hash hT entry_int_hash ?_ (args_int_hash _)))
  cases b
  · refine wpAny_bind (wpAny_of_eq (a := (Value.bool false, (0 : Int))) rfl ?_)
    refine wpAny_bind (wpAny_mkInt (wpAny_pure ⟨_, rfl, ?_⟩))
    exact wpAny_pure h
  · refine wpAny_bind (wpAny_of_eq (a := (Value.bool true, (1 : Int))) rfl ?_)
    refine wpAny_bind (wpAny_mkInt (wpAny_pure ⟨_, rfl, ?_⟩))
    exact wpAny_pure h

theorem eqBool_bool {a b : Bool} {Q : Bool → Shared → Prop} (h : Q (decide (a = b)) s) : wpAny (model prog w) A (eqBool (.bool a) (.bool b)) Q E s :=
  SeqAt.EqAt.bool_bool a b prog w E Q (by rw [show (a == b) = decide (a = b) by cases a <;> cases b <;> rfl]; exact h)
end

end Mine
end

section
open PySem PySem.W PyProof.Rows PySem.Calls
set_option maxRecDepth 100000
set_option maxHeartbeats 2000000
namespace Mine

/-- a set of bools, as it lies -/
def tb (led : Bool) (place : Array Nat) : SetTable := { mask := 7, place := place, dummies := #[], finger := 0, led := led, moves := 0, plain := true }
def hB (b : Bool) : Int := if b then 1 else 0
def esB : List Bool → Array (Int × Value)
  | [] => #[]
  | [b] => #[(hB b, .bool b)]
  | _ => #[(0, .bool false), (1, .bool true)]
def plB : List Bool → Array Nat
  | [] => #[]
  | [b] => #[if b then 1 else 0]
  | _ => #[0, 1]
/-- the elements after one more -/
def addB (l : List Bool) (b : Bool) : List Bool := if l.contains b then l else l ++ [b]
def SetB (h : Heap) (a : Addr) (led : Bool) (l : List Bool) : Prop := ∃ ep, h.get? a = some { cls := .type "set", data := .set (esB l) ep (tb led (plB l)) }

theorem lay0 (led b : Bool) : layNew (tb led #[]) #[] (hB b) (.bool b) = (esB [b], tb led (plB [b]), false, false) := by
  cases led <;> cases b <;> rfl
theorem lay1 (led b : Bool) : layNew (tb led (plB [!b])) (esB [!b]) (hB b) (.bool b) = (esB [!b, b], tb led (plB [!b, b]), false, false) := by
  cases led <;> cases b <;> rfl

section
variable {prog : Program} {w : World} {A : Around} {E : Value → Shared → Prop} {s : Shared} {a : Addr} {led : Bool}

theorem fits_tb (l : List Bool) (h : l.length ≤ 1) : (tb led (plB l)).fits (esB l).size = true := by
  match l, h with
  | [], _ => cases led <;> rfl
  | [b], _ => cases led <;> cases b <;> rfl
theorem scan_esB (l : List Bool) (b : Bool) (h : l.length ≤ 1) : byScan (.bool b) (esB l) = true := by
  match l, h with
  | [], _ => cases b <;> decide +kernel
  | [c], _ => cases b <;> cases c <;> decide +kernel

theorem setAdd_fresh {b : Bool} {Q : Bool → Shared → Prop} (S : SetB s.heap a led []) (hQ : ∀ h', Heap.SameBut a s.heap h' → SetB h' a led [b] → Q true { s with heap := h' }) :
    wpAny (model prog w) A (setAddHashed a (.bool b) (hB b)) Q E s := by
  obtain ⟨ep, ho⟩ := S
  unfold setAddHashed setAddHashedIn
  refine wpAny_holding (wpAny_bind (wpAny_setState_of ho rfl (fits_tb [] (by decide)) ?_))
  dsimp only
  refine if_yes (scan_esB [] b (by decide)) ?_
  refine wpAny_bind ?_
  unfold setAddByScan
  refine wpAny_bind (wpAny_rule ?_)
  refine wpAny_bind ?_
  show wpAny _ _ (setScanFrom a (.bool b) (hB b) true [] 0) _ _ _
  unfold setScanFrom
  refine wpAny_pure ?_
  dsimp only
  rw [show layNew (tb led (plB [])) (esB []) (hB b) (.bool b) = _ from lay0 led b]
  dsimp only
  refine wpAny_bind (wpAny_pure ?_)
  refine wpAny_bind ?_
  refine wpAny_of_eq (a := true) rfl ?_
  simp only [if_true]
  refine wpAny_bind (wpAny_storeSet_of ho rfl ?_ (by rw [sizeLine_eq]; cases b <;> decide))
  have hS := Heap.get?_update_self (Obj.putSet (esB [b]) (tb led (plB [b]))) ho rfl
  have hsb : Heap.SameBut a s.heap (s.heap.update a (Obj.putSet (esB [b]) (tb led (plB [b])))) := Heap.SameBut.update ..
  refine if_no (by cases led <;> cases b <;> rfl) ?_
  exact wpAny_pure (wpAny_pure (hQ _ hsb ⟨_, hS⟩))
theorem setAdd_same {b : Bool} {Q : Bool → Shared → Prop} (S : SetB s.heap a led [b]) (hQ : Q false s) :
    wpAny (model prog w) A (setAddHashed a (.bool b) (hB b)) Q E s := by
  obtain ⟨ep, ho⟩ := S
  unfold setAddHashed setAddHashedIn
  refine wpAny_holding (wpAny_bind (wpAny_setState_of ho rfl (fits_tb [b] (by simp)) ?_))
  dsimp only
  refine if_yes (scan_esB [b] b (by simp)) ?_
  refine wpAny_bind ?_
  unfold setAddByScan
  refine wpAny_bind (wpAny_rule ?_)
  refine wpAny_bind ?_
  show wpAny _ _ (setScanFrom a (.bool b) (hB b) true [(hB b, .bool b)] 0) _ _ _
  unfold setScanFrom
  refine if_yes (by cases b <;> rfl) ?_
  refine wpAny_bind (wpAny_setEpoch_of ho rfl (fits_tb [b] (by simp)) ?_)
  refine wpAny_bind (eqBool_bool ?_)
  refine if_yes (by simp) ?_
  refine wpAny_pure (wpAny_pure ?_)
  exact wpAny_pure hQ
theorem setAdd_other {b : Bool} {Q : Bool → Shared → Prop} (S : SetB s.heap a led [!b]) (hQ : ∀ h', Heap.SameBut a s.heap h' → SetB h' a led [!b, b] → Q true { s with heap := h' }) :
    wpAny (model prog w) A (setAddHashed a (.bool b) (hB b)) Q E s := by
  obtain ⟨ep, ho⟩ := S
  unfold setAddHashed setAddHashedIn
  refine wpAny_holding (wpAny_bind (wpAny_setState_of ho rfl (fits_tb [!b] (by simp)) ?_))
  dsimp only
  refine if_yes (scan_esB [!b] b (by simp)) ?_
  refine wpAny_bind ?_
  unfold setAddByScan
  refine wpAny_bind (wpAny_rule ?_)
  refine wpAny_bind ?_
  show wpAny _ _ (setScanFrom a (.bool b) (hB b) true [(hB (!b), .bool (!b))] 0) _ _ _
  unfold setScanFrom
  dsimp only
  refine if_no (by cases b <;> rfl) ?_
  unfold setScanFrom
  refine wpAny_pure ?_
  dsimp only
  rw [lay1 led b]
  dsimp only
  refine wpAny_bind (wpAny_pure ?_)
  refine wpAny_bind ?_
  refine wpAny_of_eq (a := true) rfl ?_
  simp only [if_true]
  refine wpAny_bind (wpAny_storeSet_of ho rfl ?_ (by rw [sizeLine_eq]; cases b <;> decide))
  have hS := Heap.get?_update_self (Obj.putSet (esB [!b, b]) (tb led (plB [!b, b]))) ho rfl
  have hsb : Heap.SameBut a s.heap (s.heap.update a (Obj.putSet (esB [!b, b]) (tb led (plB [!b, b])))) := Heap.SameBut.update ..
  refine if_no (by cases led <;> cases b <;> rfl) ?_
  exact wpAny_pure (wpAny_pure (hQ _ hsb ⟨_, hS⟩))
end
end Mine
end

section
open PySem PySem.W PyProof.Rows PySem.Calls
set_option maxRecDepth 100000
set_option maxHeartbeats 2000000
namespace Mine
open Builtin

theorem slot_set_iter : PySem.Slot "set" "__iter__" "set.__iter__" :=
  .of (owner := "set") (n := "__iter__") (by rw [typeLookup_type, builtinLookup_eq_fast]; kernel_rfl) (by decide +kernel) (by decide +kernel) (by decide +kernel)
    (by first | exact .inl (by decide +kernel) | exact .inr (by decide +kernel)) (by rw [isSubtype_type]; kernel_rfl)
theorem entry_set_iter : entryFor table "set.__iter__" = some Builtin.«frozenset.__iter__» := entryFor_alias (id' := "frozenset.__iter__") (by kernel_rfl) rfl (by decide +kernel) (by kernel_rfl)
theorem args_set_iter (a : Value) : argsOk "set.__iter__" ⟨[a], []⟩ := by unfold argsOk; kernel_rfl
theorem slot_setiter_next : PySem.Slot "set_iterator" "__next__" "set_iterator.__next__" :=
  .of (owner := "set_iterator") (n := "__next__") (by rw [typeLookup_type, builtinLookup_eq_fast]; kernel_rfl) (by decide +kernel) (by decide +kernel) (by decide +kernel)
    (by first | exact .inl (by decide +kernel) | exact .inr (by decide +kernel)) (by rw [isSubtype_type]; kernel_rfl)
theorem entry_setiter_next : entryFor table "set_iterator.__next__" = some Builtin.«set_iterator.__next__» := by first | exact entryFor_of_fast (by kernel_rfl) | exact entryFor_of_tree (by kernel_rfl)
theorem args_setiter_next (a : Value) : argsOk "set_iterator.__next__" ⟨[a], []⟩ := by unfold argsOk; kernel_rfl

section
variable {prog : Program} {w : World} {A : Around} {E : Value → Shared → Prop} {s : Shared} {a : Addr} {led : Bool}

def byText (w : World) : Bool := w.params.followText "set-order"
theorem fits2 (l : List Bool) (h : l.length ≤ 2) : (tb led (plB l)).fits (esB l).size = true := by
  match l, h with
  | [], _ => cases led <;> rfl
  | [b], _ => cases led <;> cases b <;> rfl
  | [b, c], _ => cases led <;> rfl

theorem wp_byText {Q : Bool → Shared → Prop} (h : Q (byText w) s) : wpAny (model prog w) A setsByText Q E s := by
  unfold setsByText
  exact wpAny_bind (wpAny_askSetting (wpAny_pure h))

theorem setDrawn_no {l : List Bool} {Q : Bool → Shared → Prop} (hl : l.length ≤ 2) (S : SetB s.heap a led l) (h : Q false s) : wpAny (model prog w) A (setDrawn a) Q E s := by
  obtain ⟨ep, ho⟩ := S
  unfold setDrawn
  refine wpAny_bind (wpAny_setState_of ho rfl (fits2 l hl) ?_)
  refine wpAny_bind (wp_byText ?_)
  refine wpAny_pure ?_
  have : ∀ c : Bool, (!c && (!(tb led (plB l)).plain && decide ((esB l).size > 1))) = false := fun c => by cases c <;> rfl
  exact (this (byText w)) ▸ h

theorem pyIter_set {l : List Bool} {ep : Nat} {Q : Value → Shared → Prop} (hl : l.length ≤ 2) (ho : s.heap.get? a = some { cls := .type "set", data := .set (esB l) ep (tb led (plB l)) })
    (hQ : Q (.ref s.heap.objs.size) { s with heap := s.heap.push { cls := .type "set_iterator", data := .fields #[rawInt 0, rawInt 0, .ref a, rawInt (esB l).size, rawInt ep] } }) : wpAny (model prog w) A (pyIter (.ref a)) Q E s := by
  have hT : s.TypeIs (.ref a) "set" := ⟨_, ho, rfl⟩
  refine wpAny_pyIter_slot hT slot_set_iter (wpAny_call_entry slot_set_iter hT entry_set_iter ?_ (args_set_iter _))
  unfold Builtin.«frozenset.__iter__»
  refine wpAny_bind (wpAny_of_eq (a := a) rfl ?_)
  refine wpAny_bind ?_
  unfold Frozenset.sizeOf setEntries
  refine wpAny_bind (wpAny_bind (wpAny_setState_of ho rfl (fits2 l hl) (wpAny_pure (wpAny_pure ?_))))
  refine wpAny_bind (setDrawn_no hl ⟨ep, ho⟩ ?_)
  refine if_no rfl ?_
  refine wpAny_bind (wpAny_pure ?_)
  refine wpAny_bind (wpAny_setEpoch_of ho rfl (fits2 l hl) ?_)
  refine wpAny_bind (wpAny_newObj_type ?_ (by size_fits))
  exact wpAny_pure ⟨_, rfl, "set_iterator", _, ⟨_, Heap.get?_push_size _ rfl, rfl⟩, slot_setiter_next.lookup, hQ⟩
end
end Mine
end

section
open PySem PySem.W PyProof.Rows PySem.Calls
set_option maxRecDepth 100000
set_option maxHeartbeats 2000000
namespace Mine
open Builtin

section
variable {prog : Program} {w : World} {A : Around} {E : Value → Shared → Prop} {s : Shared} {a : Addr} {led : Bool}

def nextOfSet (w : World) (a : Addr) (l : List Bool) (ep slot given : Nat) : Option (Value × Nat) :=
  if byText w then ((pickOrder (w.params.setOrder a ep) (esB l))[given]?).map (fun e => (e.2, slot))
  else match (esB l)[SetTable.below (plB l) slot]?, (plB l)[SetTable.below (plB l) slot]? with
    | some (_, x), some j => some (x, j + 1)
    | _, _ => none

theorem setNext_of {l : List Bool} {ep slot given : Nat} {Q : Option (Value × Nat) → Shared → Prop} (hl : l.length ≤ 2) (hled : byText w = false → led = true) (ho : s.heap.get? a = some { cls := .type "set", data := .set (esB l) ep (tb led (plB l)) })
    (h : Q (nextOfSet w a l ep slot given) s) : wpAny (model prog w) A (setNext a slot given ep) Q E s := by
  unfold setNext
  refine wpAny_bind (wpAny_setState_of ho rfl (fits2 l hl) ?_)
  refine wpAny_bind (wp_byText ?_)
  unfold nextOfSet at h
  cases hb : byText w with
  | true =>
    rw [hb] at h
    simp only [if_true] at h
    refine if_yes rfl ?_
    refine if_no (by simp) ?_
    refine wpAny_bind ?_
    unfold setWalk
    refine wpAny_bind (wpAny_setState_of ho rfl (fits2 l hl) ?_)
    refine wpAny_bind (wp_byText ?_)
    refine if_yes hb ?_
    refine wpAny_bind (wpAny_askSetting ?_)
    exact wpAny_pure (wpAny_pure h)
  | false =>
    rw [hb] at h
    simp only [Bool.false_eq_true, if_false] at h
    have hlt := hled hb
    subst hlt
    refine if_no rfl ?_
    have hd : (!(tb true (plB l)).plain && decide ((esB l).size > 1)) = false := rfl
    refine if_no hd ?_
    refine wpAny_bind ?_
    refine if_no (by rfl) ?_
    exact wpAny_pure (wpAny_pure h)

theorem pick1 {α : Type} (f : Nat → Nat) (x : α) : pickOrder f #[x] = #[x] := by
  unfold pickOrder
  show pickOrder.go f 1 0 [x] #[] = #[x]
  unfold pickOrder.go
  simp [Nat.mod_one, pickOrder.go]
theorem pick2 {α : Type} (f : Nat → Nat) (x y : α) : (pickOrder f #[x, y]).size = 2 := by
  unfold pickOrder
  show (pickOrder.go f 2 0 [x, y] #[]).size = 2
  unfold pickOrder.go
  have h : f 0 % [x, y].length < 2 := Nat.mod_lt _ (by simp)
  simp only [List.length_cons, List.length_nil] at h ⊢
  rcases Nat.lt_or_ge (f 0 % 2) 1 with h0 | h0
  · have : f 0 % 2 = 0 := by omega
    simp [this, pickOrder.go, Nat.mod_one]
  · have : f 0 % 2 = 1 := by omega
    simp [this, pickOrder.go, Nat.mod_one]

theorem next_one (b : Bool) (ep : Nat) : ∃ sl, nextOfSet w a [b] ep 0 0 = some (.bool b, sl) ∧ nextOfSet w a [b] ep sl 1 = none := by
  unfold nextOfSet
  cases hb : byText w with
  | true => exact ⟨0, by simp [esB, pick1], by simp [esB, pick1]⟩
  | false => cases b <;> exact ⟨_, rfl, rfl⟩
theorem next_two (b c : Bool) (ep : Nat) : ∃ x sl, nextOfSet w a [b, c] ep 0 0 = some (x, sl) ∧ ∃ y sl', nextOfSet w a [b, c] ep sl 1 = some (y, sl') := by
  unfold nextOfSet
  cases hb : byText w with
  | true =>
    have h2 := pick2 (w.params.setOrder a ep) ((0 : Int), Value.bool false) (1, Value.bool true)
    have e : esB [b, c] = #[((0 : Int), Value.bool false), (1, Value.bool true)] := rfl
    simp only [if_true, e]
    refine ⟨_, 0, by rw [Array.getElem?_eq_getElem (by omega)]; rfl, _, 0, by rw [Array.getElem?_eq_getElem (by omega)]; rfl⟩
  | false => cases b <;> cases c <;> exact ⟨.bool false, 1, by rw [if_neg Bool.false_ne_true]; decide +kernel, .bool true, 2, by rw [if_neg Bool.false_ne_true]; decide +kernel⟩

/-- the iterator of a set -/
def SetIt (h : Heap) (I a : Addr) (l : List Bool) (ep slot given : Nat) : Prop := h.get? I = some { cls := .type "set_iterator", data := .fields #[rawInt slot, rawInt given, .ref a, rawInt (esB l).size, rawInt ep] }

theorem setit_next {I : Addr} {l : List Bool} {ep slot given sl : Nat} {x : Value} {Q : Option Value → Shared → Prop} (hl : l.length ≤ 2) (hled : byText w = false → led = true) (hI : SetIt s.heap I a l ep slot given)
    (ho : s.heap.get? a = some { cls := .type "set", data := .set (esB l) ep (tb led (plB l)) }) (hn : nextOfSet w a l ep slot given = some (x, sl))
    (hQ : ∀ h', Heap.SameBut I s.heap h' → SetIt h' I a l ep sl (given + 1) → Q (some x) { s with heap := h' }) : wpAny (model prog w) A (pyNext (.ref I)) Q E s := by
  have hT : s.TypeIs (.ref I) "set_iterator" := ⟨_, hI, rfl⟩
  unfold pyNext
  refine wpAny_bind (wpAny_attempt (wpAny_callSpecial?_slot (name := PySem.Str.ofString "__next__") hT slot_setiter_next (wpAny_call_entry slot_setiter_next hT entry_setiter_next ?_ (args_setiter_next _))))
  unfold Builtin.«set_iterator.__next__»
  refine wpAny_bind (wpAny_of_eq (a := (.ref I, [])) rfl ?_)
  refine wpAny_bind ?_
  unfold fieldsOf
  refine wpAny_bind (wpAny_load hI ?_)
  refine wpAny_pure ?_
  refine wpAny_bind ?_
  unfold setEntries
  refine wpAny_bind (wpAny_setState_of ho rfl (fits2 l hl) (wpAny_pure ?_))
  refine if_no (by simp) ?_
  refine wpAny_bind ?_
  refine setNext_of (led := led) hl hled ho ?_
  simp only [Int.toNat_natCast]
  rw [hn]
  dsimp only
  refine wpAny_bind (wpAny_setField_rec hI (by simp) fun h1 g1 b1 => ?_)
  refine wpAny_bind (wpAny_setField_rec g1 (by simp) fun h2 g2 b2 => ?_)
  refine wpAny_pure ⟨x, rfl, wpAny_pure (hQ h2 (b1.trans b2) ?_)⟩
  unfold SetIt
  rw [g2]
  simp
theorem setit_end {I : Addr} {l : List Bool} {ep slot given : Nat} {Q : Option Value → Shared → Prop} (hh : A.handled = none) (hl : l.length ≤ 2) (hled : byText w = false → led = true) (hI : SetIt s.heap I a l ep slot given)
    (ho : s.heap.get? a = some { cls := .type "set", data := .set (esB l) ep (tb led (plB l)) }) (hn : nextOfSet w a l ep slot given = none)
    (hQ : ∀ h', Heap.ExtBut I s.heap h' → Q none { s with heap := h' }) : wpAny (model prog w) A (pyNext (.ref I)) Q E s := by
  have hT : s.TypeIs (.ref I) "set_iterator" := ⟨_, hI, rfl⟩
  unfold pyNext
  refine wpAny_bind (wpAny_attempt (wpAny_callSpecial?_slot (name := PySem.Str.ofString "__next__") hT slot_setiter_next (wpAny_call_entry slot_setiter_next hT entry_setiter_next ?_ (args_setiter_next _))))
  unfold Builtin.«set_iterator.__next__»
  refine wpAny_bind (wpAny_of_eq (a := (.ref I, [])) rfl ?_)
  refine wpAny_bind ?_
  unfold fieldsOf
  refine wpAny_bind (wpAny_load hI ?_)
  refine wpAny_pure ?_
  refine wpAny_bind ?_
  unfold setEntries
  refine wpAny_bind (wpAny_setState_of ho rfl (fits2 l hl) (wpAny_pure ?_))
  refine if_no (by simp) ?_
  refine wpAny_bind ?_
  refine setNext_of (led := led) hl hled ho ?_
  simp only [Int.toNat_natCast]
  rw [hn]
  dsimp only
  refine wpAny_bind (wpAny_setField_rec hI (by simp) fun h1 g1 b1 => ?_)
  show wpAny _ _ (newExc (.type "StopIteration") [] >>= _) _ _ _
  refine wpAny_bind ?_
  simp only [newExc, newTuple]
  refine wpAny_bind (wpAny_newObj_type ?_ (by size_fits))
  refine wpAny_bind (m := firstArgMember _ _) (wpAny_of_eq (a := Value.none) (by first | rfl | (simp only [firstArgMember]; rfl)) ?_)
  refine wpAny_newObj_type ?_ (by size_fits)
  simp only [raiseNew]
  refine wpAny_bind (wpAny_handled ?_)
  rw [show A.in1.handled = none from hh]
  refine wpAny_bind (wpAny_pure (wpAny_throw ?_))
  refine wpAny_bind (wpAny_isInstance (T := "StopIteration") (b := true) ⟨_, Heap.get?_push_size _ rfl, rfl⟩ isSubtype_stop ?_)
  exact wpAny_pure (hQ _ ((b1.extBut.push _).push _))
end
end Mine
end

section
open PySem PySem.W PyProof.Rows PySem.Calls
set_option maxRecDepth 100000
set_option maxHeartbeats 2000000
namespace Mine

section
variable {prog : Program} {w : World} {A : Around} {E : Value → Shared → Prop} {s : Shared} {a : Addr} {led : Bool}

theorem SetB.at' {h h' : Heap} {l : List Bool} (S : SetB h a led l) (k : ∀ o, h.get? a = some o → h'.get? a = some o) : SetB h' a led l := let ⟨ep, e⟩ := S; ⟨ep, k _ e⟩

theorem newSet_B {Q : Value → Shared → Prop} (h : Q (.ref s.heap.objs.size) { s with heap := s.heap.push { cls := .type "set", data := .set (esB []) 0 (tb (!byText w) (plB [])) } }) : wpAny (model prog w) A (newSet (.type "set")) Q E s := by
  unfold newSet
  refine wpAny_bind (wp_byText ?_)
  dsimp only
  simp only [newObj]
  exact wpAny_bind (wpAny_alloc (wpAny_pure h))

theorem call_add {l : List Bool} {b : Bool} {Q : Value → Shared → Prop} (hl : l.length ≤ 1) (S : SetB s.heap a led l)
    (hQ : ∀ h' tk, Heap.SameBut a s.heap h' → SetB h' a led (addB l b) → Q .none { s with heap := h', toks := tk }) : wpAny (model prog w) A (call (.builtin "set.add") [.ref a, .bool b]) Q E s := by
  have hT : s.TypeIs (.ref a) "set" := let ⟨ep, e⟩ := S; ⟨_, e, rfl⟩
  refine wpAny_call_entry PySem.F.slot_set_add hT PySem.F.entry_set_add ?_ (PySem.F.args_set_add_2 _ _)
  unfold Builtin.«set.add» Builtin.Frozenset.oneOther
  simp only [List.isEmpty_nil, bind_assoc]
  unfold Builtin.Frozenset.addrOf setAdd
  refine wpAny_bind (wpAny_pure ?_)
  try dsimp only
  refine wpAny_bind (wpAny_pure ?_)
  try dsimp only
  refine wpAny_bind ?_
  refine wpAny_holding ?_
  refine wpAny_bind (pyHash_bool ?_)
  show wpAny _ _ (setAddHashed a (.bool b) (hB b)) _ _ _
  match l, hl, S, hQ with
  | [], _, S, hQ => exact setAdd_fresh (s := { s with toks := s.toks + 1 }) S fun h' hsb S' => wpAny_pure ⟨_, rfl, hQ h' _ hsb S'⟩
  | [c], _, S, hQ =>
    by_cases hc : c = b
    · subst hc
      refine setAdd_same (s := { s with toks := s.toks + 1 }) S ?_
      have e : addB [c] c = [c] := by simp [addB]
      rw [e] at hQ
      exact wpAny_pure ⟨_, rfl, hQ s.heap _ (Heap.SameBut.refl _ _) S⟩
    · have hc' : c = !b := by cases c <;> cases b <;> simp_all
      subst hc'
      have e : addB [!b] b = [!b, b] := by cases b <;> rfl
      rw [e] at hQ
      exact setAdd_other (s := { s with toks := s.toks + 1 }) S fun h' hsb S' => wpAny_pure ⟨_, rfl, hQ h' _ hsb S'⟩
end

section
variable {prog : Program} {w : World} {A : Around} {E : Value → Shared → Prop} {s : Shared} {R : Result → Shared → Prop}
theorem compTurn_set (elt target iter : Expr) (scope : Scope) (pos : Pos) (it acc : Value) (env : Env) :
    compTurn (.SetComp elt [⟨target, iter, [], 0⟩] scope pos) 0 it acc env = (standAt iter.pos >>= fun _ => pyNext it >>= fun r => match r with
      | none => pure (.done .next)
      | some v => letOwnedTupleGo target it v >>= fun _ => PySem.assign target env v >>= fun _ =>
        (eval elt env >>= fun x => standAt elt.pos >>= fun _ => call (.builtin "set.add") [acc, x] >>= fun _ => pure ()) >>= fun _ =>
          again (.compLoop (.SetComp elt [⟨target, iter, [], 0⟩] scope pos) 0 it acc env)) := by rfl
theorem codeAny_compLoop_set {elt target iter : Expr} {scope : Scope} {pos : Pos} {it acc : Value} {env : Env} (I : Nat → Shared → Prop)
    (turn : ∀ n s, I n s → wpAny (model prog w) A (pyNext it) (fun r s₁ => match r with
      | none => R (.ok .next) s₁
      | some v => wpAny (model prog w) A (PySem.assign target env v) (fun _ s₂ => wpAny (model prog w) A (eval elt env) (fun x s₃ =>
          wpAny (model prog w) A (call (.builtin "set.add") [acc, x]) (fun _ s₄ => ∃ m, m < n ∧ I m s₄) (notedBy (model prog w) A env fun e s' => R (.error e) s') s₃)
          (notedBy (model prog w) A env fun e s' => R (.error e) s') s₂) (notedBy (model prog w) A env fun e s' => R (.error e) s') s₁) (notedBy (model prog w) A env fun e s' => R (.error e) s') s)
    (n : Nat) (h : I n s) (ht : ∀ v, letOwnedTupleGo target it v = pure () := by intro _; rfl) :
    codeAny (model prog w) A (.compLoop (.SetComp elt [⟨target, iter, [], 0⟩] scope pos) 0 it acc env) R s := by
  refine codeAny_loop rfl I (fun n s hI => ?_) n h
  show wpAny _ _ ((compTurn (.SetComp elt [⟨target, iter, [], 0⟩] scope pos) 0 it acc env).onRaise (fun x => do noteFrame x env; theTreesLotGoes x)) _ _ s
  refine wpAny_noted ?_
  rw [compTurn_set]
  refine wpAny_bind (wpAny_standAt (wpAny_bind (wpAny_mono (turn n s hI) (fun r s₁ h₁ => ?_) fun _ _ h' => h')))
  cases r with
  | none => exact wpAny_pure h₁
  | some v =>
    refine wpAny_bind (wpAny_of_eq (ht v) ?_)
    exact wpAny_bind (wpAny_mono h₁ (fun _ s₂ h₂ => wpAny_bind (wpAny_bind (wpAny_mono h₂ (fun x s₃ h₃ => wpAny_bind (wpAny_standAt (wpAny_bind (wpAny_mono h₃
      (fun _ s₄ h₄ => wpAny_pure (wpAny_pure ⟨rfl, h₄⟩)) fun _ _ h' => h')))) fun _ _ h' => h'))) fun _ _ h' => h')
theorem codeAny_compStart_set {elt target iter scope pos it acc env}
    (h0 : codeAny (model prog w) A (.compLoop (.SetComp elt [⟨target, iter, [], 0⟩] scope pos) 0 it acc env) R s)
    (h : wpAny (model prog w) A (pyIter it) (fun it' s' => codeAny (model prog w) A (.compLoop (.SetComp elt [⟨target, iter, [], 0⟩] scope pos) 0 it' acc env) R s')
      (notedBy (model prog w) A env fun x s' => R (.error x) s') s) :
    codeAny (model prog w) A (.compStart (.SetComp elt [⟨target, iter, [], 0⟩] scope pos) 0 it acc env) R s := by
  refine codeAny_of_tree ?_
  show wpAny _ _ ((compStart (.SetComp elt [⟨target, iter, [], 0⟩] scope pos) 0 it acc env).onRaise (fun x => do noteFrame x env; standAt theWindowsPlace)) _ _ s
  refine wpAny_notedAt ?_
  unfold compStart
  show wpAny _ _ (ask >>= _) _ _ s
  refine wpAny_bind (wpAny_askSetting (wpAny_ite ?_))
  split
  · first
      | exact wpAny_bind (wpAny_pure (wpAny_pure (And.intro rfl h0)))
      | exact wpAny_pure (And.intro rfl h0)
  · first
      | exact wpAny_bind (wpAny_rule (wpAny_bind (wpAny_standAt (wpAny_bind (wpAny_mono h (fun it' s' h' => wpAny_pure (And.intro rfl h')) fun _ _ x => x)))))
      | (refine wpAny_bind (wpAny_rule ?_); show wpAny _ _ (standAt iter.pos >>= _) _ _ s; exact wpAny_bind (wpAny_standAt (wpAny_bind (wpAny_mono h (fun it' s' h' => wpAny_pure (And.intro rfl h')) fun _ _ x => x))))
end

section
variable {w : World} {O : Addr → Prop} {k : Nat} {env : Env} {ρ : Ctx}
/-- a set comprehension that makes bools, at most two -/
theorem setcomp {elt iter : Expr} {x : Str} {px : Pos} {scope : Scope} {pos : Pos} {cl : List (Str × Addr)} {ρf : Ctx} {dv : D} {ds : List D} (F : D → Bool) (h2 : ds.length ≤ 2)
    (ev : Ev w k env ρ iter dv) (it : Its w k dv ds) (FO : FreeOk env scope cl x ρ ρf)
    (elts : ∀ d ∈ ds, ∀ C, Ev w k (compEnvC scope cl C env) ((x, d) :: ρf) elt (.bool (F d)))
    (hcell : ∀ y ∈ scope.names, y.2 ≠ .cell := by decide) (hkind : scope.kind = .function := by with_unfolding_all rfl)
    (hnames : ∀ y ∈ scope.names, y.2 = .local → scope.names.lookup y.1 = some .local := by decide) (hx : scope.names.lookup x = some .local := by with_unfolding_all rfl)
    (hs : ∀ x, foldedSetIterable iter env x = pure x := by intro _; with_unfolding_all rfl) {h₀ : Heap} {N : Addr → Prop} {A : Around} {s : Shared} {E : Value → Shared → Prop} (R : Room k A) (S : St h₀ N O env s.heap ρ) :
    wpAny (model PG w) A (eval (.SetComp elt [⟨.Name x px, iter, [], 0⟩] scope pos) env) (fun v s' => ∃ a, v = .ref a ∧ s.heap.get? a = none ∧ SetB s'.heap a (!byText w) ((ds.map F).foldl addB []) ∧ Keeps s s') E s := by
  rw [arm_eval_SetComp]
  refine wpAny_comprehension_free (use := Option.none) rfl hs FO.clos hkind hnames (wpAny_mono (ev h₀ N O A s E R S) (fun v s₁ h₁ => ?_) fun _ _ x => x)
  have S₁ := S.keeps (kHeap h₁.2)
  refine wpAny_mono (it N A s₁ E v R S₁.gh S₁.al h₁.1) (fun itv s₂ h₂ => ?_) fun _ _ x => x
  obtain ⟨I, fp, wr, P, T, rfl, W, T0, K, hlt, hfp, hwr, hns, hP, hsz⟩ := h₂
  have S₂ := S₁.keeps (kHeap K)
  refine newSet_B (wpAny_newFunctionEnv hcell (by intro y hy; simp at hy) (fun h₃ hns₃ hsb₃ => ?_) hkind)
  dsimp only at hns₃ hsb₃ ⊢
  generalize hH : s₂.heap.push { cls := .type "set", data := .set (esB []) 0 (tb (!byText w) (plB [])) } = H at hns₃ hsb₃ ⊢
  generalize hDd : s₂.heap.objs.size = Dl
  generalize hCd : H.objs.size = C at hns₃ hsb₃ ⊢
  have hDC : Dl + 1 = C := by rw [← hCd, ← hH, Heap.size_push, hDd]
  have hDC' : Dl ≠ C := Nat.ne_of_lt (by omega)
  have old : ∀ b o, s₂.heap.get? b = some o → h₃.get? b = some o := fun b o e => by
    have hb := ltN e
    exact hsb₃.extBut b o (Nat.ne_of_lt (by omega)) (Heap.get?_push_of_some _ (hH ▸ Heap.get?_push_of_some _ e))
  have hacc : SetB h₃ Dl (!byText w) [] := ⟨0, hsb₃.extBut _ _ hDC' (Heap.get?_push_of_some _ (hH ▸ hDd ▸ Heap.get?_push_size _ rfl))⟩
  have fresh : ∀ a : Nat, Dl ≤ a → s₂.heap.get? a = Option.none := fun a ha => by
    cases e : s₂.heap.get? a with
    | none => rfl
    | some o' => exact absurd (ltN e) (by omega)
  have hDf : Dl ∉ fp := fun hm => by have h : Dl < s₂.heap.objs.size := hlt _ hm; omega
  have hCf : C ∉ fp := fun hm => by have h : C < s₂.heap.objs.size := hlt _ hm; omega
  have hDw : Dl ∉ wr := fun hm => hDf (W.sub _ hm)
  have hCw : C ∉ wr := fun hm => hCf (W.sub _ hm)
  have T3 : T 0 h₃ := W.frame _ _ _ T0 fun b _ o e => old b o e
  have nD : ¬ N Dl := S₂.al.above (Nat.le_of_eq hDd)
  have keepAll : ∀ (h' : Heap) (tk : Nat), (∀ b o, b ≠ C → b ∉ wr → b ≠ Dl → s₂.heap.get? b = some o → h'.get? b = some o) → Keeps s { s₂ with heap := h', toks := tk } := fun h' tk q => by
    obtain ⟨h1, t1, e1, q1⟩ := kTrans h₁.2 K
    subst e1
    refine ⟨h', tk, rfl, fun b o e => q b o (fun hb => ?_) (fun hb => ?_) (fun hb => ?_) (q1 b o e)⟩
    · have := q1 b o e; rw [hb] at this; rw [fresh C (by omega)] at this; cases this
    · have := kHeap h₁.2 b o e; rw [hwr b hb] at this; cases this
    · have := q1 b o e; rw [hb] at this; rw [fresh Dl (by omega)] at this; cases this
  have lenB : ∀ (l : List Bool) (acc : List Bool), (l.foldl addB acc).length ≤ acc.length + l.length := by
    intro l
    induction l with
    | nil => intro acc; simp
    | cons b l ih =>
      intro acc
      have h1 := ih (addB acc b)
      have h2 : (addB acc b).length ≤ acc.length + 1 := by unfold addB; split <;> simp
      simp only [List.foldl_cons, List.length_cons]; omega
  have loop : ∀ s₃ : Shared, s₃ = { s₂ with heap := h₃, toks := s₂.toks + ([] : List (Str × Value)).length } →
      codeAny (model PG w) A (.compLoop (.SetComp elt [⟨.Name x px, iter, [], 0⟩] scope pos) 0 (.ref I) (.ref Dl) (compEnvC scope cl C env))
        (compPost (model PG w) A E Option.none (fun v s' => ∃ a, v = .ref a ∧ s.heap.get? a = none ∧ SetB s'.heap a (!byText w) ((ds.map F).foldl addB []) ∧ Keeps s s') (.ref Dl) C) s₃ := by
    rintro s₃ rfl
    refine codeAny_compLoop_set (fun n s' => ∃ i rest m, n = rest.length ∧ ds.drop i = rest ∧ i + rest.length = ds.length ∧ T i s'.heap ∧ SetB s'.heap Dl (!byText w) (((ds.take i).map F).foldl addB []) ∧ s'.heap.Ns C m ∧
        (∀ b o, b ≠ C → b ∉ wr → b ≠ Dl → s₂.heap.get? b = some o → s'.heap.get? b = some o) ∧ ∃ h' tk, s' = { s₂ with heap := h', toks := tk }) ?_ ds.length
      ⟨0, ds, _, rfl, rfl, by omega, T3, hacc, hns₃, fun b o _ _ _ e => old b o e, _, _, rfl⟩
    rintro n s' ⟨i, rest, m, rfl, hdrop, hlen, Ti, hl, hn, hk, h', tk, rfl⟩
    have nsq : ∀ b ∈ wr, ∀ o xs n, h'.get? b = some o → o.data ≠ .seq xs n := fun b hb o xs n e => hns i h' b o xs n Ti hb e
    have nsC : ∀ {h4 : Heap} {m4 : Str → Option Value}, h4.Ns C m4 → ∀ o xs n, h4.get? C = some o → o.data ≠ .seq xs n := fun hn o xs n e d => by
      obtain ⟨o', es, ep, e', d', _⟩ := hn
      rw [e] at e'; cases e'; rw [d] at d'; cases d'
    cases rest with
    | nil =>
      have hi : i = ds.length := by simpa using hlen
      subst hi
      refine W.done _ _ _ Ti fun h'' tk' hk' => ?_
      have hn' : h''.Ns C m := hn.at' fun o e => hk' _ o hCw e
      refine ⟨m, hn', fun h4 hs4 => ⟨Dl, rfl, ?_, ?_, keepAll h4 tk' fun b o h1 h2 h3 e => hs4.extBut b o h1 (hk' b o h2 (hk b o h1 h2 h3 e))⟩⟩
      · cases e : s.heap.get? Dl with
        | none => rfl
        | some o => have := kHeap (kTrans h₁.2 K) _ _ e; rw [fresh Dl (by omega)] at this; cases this
      · rw [List.take_of_length_le (Nat.le_refl _)] at hl
        exact (hl.at' fun o e => hk' _ o hDw e).at' fun o e => hs4.extBut _ o hDC' e
    | cons d rest =>
      have hi : i < ds.length := by simp only [List.length_cons] at hlen; omega
      have hdi : ds[i]? = some d := by
        have := congrArg List.head? hdrop
        rw [List.head?_drop] at this; simpa using this
      have hdm : d ∈ ds := List.mem_of_getElem? hdi
      have hdrop' : ds.drop (i + 1) = rest := by
        have := congrArg List.tail hdrop
        rw [List.tail_drop] at this; simpa using this
      have htake : ds.take (i + 1) = ds.take i ++ [d] := by rw [List.take_add_one, hdi]; rfl
      refine W.item i _ _ _ hi Ti fun v' h4 tk4 hPv T4 hk4 => ?_
      have hn4 : h4.Ns C m := hn.at' fun o e => hk4 _ o hCw e
      refine wpAny_assign_Name (wpAny_storeName_local (env := compEnvC scope cl C env) (lookup_relabel_local hx) hn4 (fun h5 hn5 hs5 => ?_) (by simp [compEnvC, relabel, hkind]))
      have hs5' : Heap.SameBut C h4 h5 := hs5
      have T5 : T (i + 1) h5 := W.frame _ _ _ T4 fun b hb o e => hs5'.extBut b o (fun h => hCf (h ▸ hb)) e
      have up : ∀ b o, b ≠ C → b ∉ wr → b ≠ Dl → s₂.heap.get? b = some o → h5.get? b = some o := fun b o h1 h2 h3 e => hs5'.extBut b o h1 (hk4 b o h2 (hk b o h1 h2 h3 e))
      have l5 : SetB h5 Dl (!byText w) (((ds.take i).map F).foldl addB []) := (hl.at' fun o e => hk4 _ o hDw e).at' fun o e => hs5'.extBut _ o hDC' e
      have rd : Rep (fun b => N b ∨ b = Dl) h5 d v' := by
        have r2 : Rep N s₂.heap d v' := hP i v' d hPv hdi
        have r3 : Rep (fun b => N b ∨ b = Dl) s₂.heap d v' := r2.more fun b o e hb => by
          rcases hb with hb | hb
          · exact hb
          · rw [hb, fresh Dl (by omega)] at e; cases e
        refine r3.stay fun b o xs n nb e dd => up b o (fun hb => ?_) (fun hb => ?_) (fun hb => nb (.inr hb)) e
        · rw [hb, fresh C (by omega)] at e; cases e
        · exact hns 0 s₂.heap b o xs n T0 hb e dd
      have Kw : ∀ b o, s₂.heap.get? b = some o → b ∉ wr → h5.get? b = some o := fun b o e hb => up b o (fun h => by rw [h, fresh C (by omega)] at e; cases e) hb (fun h => by rw [h, fresh Dl (by omega)] at e; cases e) e
      have S5 : St h₀ (fun b => N b ∨ b = Dl) (fun b => b = Dl) (compEnvC scope cl C env) h5 ((x, d) :: ρf) := by
        refine St.comp (h := s₁.heap) S₁ FO hkind hx ?_ ?_ (let ⟨ep, e⟩ := l5; ⟨_, e⟩) (fun b o e => Kw b o (kHeap K b o e) fun hb => by rw [hwr b hb] at e; cases e) hn5 (by simp) rd
        · cases e : s₁.heap.get? C with
          | none => rfl
          | some o => have := kHeap K _ _ e; rw [fresh C (by omega)] at this; cases this
        · cases e : s₁.heap.get? Dl with
          | none => rfl
          | some o => have := kHeap K _ _ e; rw [fresh Dl (by omega)] at this; cases this
      refine wpAny_mono (elts d hdm C h₀ _ _ A { s₂ with heap := h5, toks := _ } _ R S5) (fun y s7 h7 => ?_) fun _ _ x => x
      obtain ⟨ry, h7', tk7, rfl, k7⟩ := h7
      obtain rfl : y = .bool (F d) := ry.val_inv
      have hlen1 : (((ds.take i).map F).foldl addB []).length ≤ 1 := by
        have := lenB ((ds.take i).map F) []
        rw [List.length_map, List.length_take] at this
        simp only [List.length_nil] at this
        simp only [List.length_cons] at hlen
        omega
      refine call_add hlen1 (l5.at' fun o e => k7 _ o e) fun h8 tk8 hs8 S8 => ?_
      refine ⟨rest.length, by simp, i + 1, rest, _, rfl, hdrop', by simp only [List.length_cons] at hlen; omega, W.frame _ _ _ T5 fun b hb o e => hs8.extBut b o (fun h => hDf (h ▸ hb)) (k7 b o e), ?_, (hn5.keeps k7).sameBut hs8 (Ne.symm hDC'), fun b o h1 h2 h3 e => hs8.extBut b o h3 (k7 b o (up b o h1 h2 h3 e)), _, _, rfl⟩
      rw [htake, List.map_append, List.foldl_append]
      exact S8
  exact codeAny_compStart_set (loop _ rfl) (W.self 0 _ _ _ T3 (loop _ rfl))
end
end Mine
end

section
open PySem PySem.W PyProof.Rows PySem.Calls
set_option maxRecDepth 100000
set_option maxHeartbeats 2000000
namespace Mine

section
variable {prog : Program} {w : World} {A : Around} {E : Value → Shared → Prop} {s : Shared} {a : Addr}

theorem unpack_one {b : Bool} {Q : List Value → Shared → Prop} (hh : A.handled = none) (S : SetB s.heap a (!byText w) [b])
    (hQ : ∀ h', Heap.ExtBut s.heap.objs.size s.heap h' → Q [.bool b] { s with heap := h' }) : wpAny (model prog w) A (unpackItems (.ref a) 1 none) Q E s := by
  obtain ⟨ep, ho⟩ := S
  have hled : byText w = false → (!byText w) = true := fun h => by rw [h]; rfl
  have hT : s.TypeIs (.ref a) "set" := ⟨_, ho, rfl⟩
  have hlt : a ≠ s.heap.objs.size := Nat.ne_of_lt (Heap.lt_size ho)
  obtain ⟨sl, n1, n2⟩ := next_one (w := w) (a := a) b ep
  unfold unpackItems
  refine wpAny_bind ?_
  unfold notIterableAtAll
  refine wpAny_bind (wpAny_specialOf hT slot_set_iter.lookup ?_)
  refine wpAny_pure ?_
  simp only [Bool.false_eq_true, if_false]
  refine wpAny_bind (wpAny_holding (pyIter_set (by simp) ho ?_))
  generalize hH : s.heap.push _ = H
  have kH : ∀ b o, s.heap.get? b = some o → H.get? b = some o := fun b o e => hH ▸ Heap.get?_push_of_some _ e
  have g0 : SetIt H s.heap.objs.size a [b] ep 0 0 := by rw [← hH]; exact Heap.get?_push_size _ rfl
  refine wpAny_bind (wpAny_holding ?_)
  show wpAny _ _ (pyNext (.ref s.heap.objs.size) >>= _) _ E _
  refine wpAny_bind (setit_next (s := { s with heap := H }) (by simp) hled g0 (kH _ _ ho) n1 fun h₁ b₁ g₁ => ?_)
  refine wpAny_bind (wpAny_holding ?_)
  show wpAny _ _ (pure []) _ E _
  refine wpAny_pure (wpAny_pure ?_)
  rw [if_neg (by simp)]
  refine wpAny_bind (wpAny_holding ?_)
  refine setit_end (s := { s with heap := h₁ }) hh (by simp) hled g₁ (b₁.extBut _ _ hlt (kH _ _ ho)) n2 fun h₂ e₂ => ?_
  rw [if_neg (by simp)]
  exact wpAny_pure (hQ h₂ fun c o hc e => e₂ c o hc (b₁.extBut c o hc (kH c o e)))

theorem unpack_two {b c : Bool} {Q : List Value → Shared → Prop} (S : SetB s.heap a (!byText w) [b, c])
    (hh : A.handled = none) (hE : ∀ hm h' tk e, Heap.ExtBut s.heap.objs.size s.heap hm → Heap.NewExc hm h' e "ValueError" → E (.ref e) { s with heap := h', toks := tk }) : wpAny (model prog w) A (unpackItems (.ref a) 1 none) Q E s := by
  obtain ⟨ep, ho⟩ := S
  have hled : byText w = false → (!byText w) = true := fun h => by rw [h]; rfl
  have hT : s.TypeIs (.ref a) "set" := ⟨_, ho, rfl⟩
  have hlt : a ≠ s.heap.objs.size := Nat.ne_of_lt (Heap.lt_size ho)
  obtain ⟨x, sl, n1, y, sl', n2⟩ := next_two (w := w) (a := a) b c ep
  unfold unpackItems
  refine wpAny_bind ?_
  unfold notIterableAtAll
  refine wpAny_bind (wpAny_specialOf hT slot_set_iter.lookup ?_)
  refine wpAny_pure ?_
  simp only [Bool.false_eq_true, if_false]
  refine wpAny_bind (wpAny_holding (pyIter_set (by simp) ho ?_))
  generalize hH : s.heap.push _ = H
  have kH : ∀ b o, s.heap.get? b = some o → H.get? b = some o := fun b o e => hH ▸ Heap.get?_push_of_some _ e
  have g0 : SetIt H s.heap.objs.size a [b, c] ep 0 0 := by rw [← hH]; exact Heap.get?_push_size _ rfl
  refine wpAny_bind (wpAny_holding ?_)
  show wpAny _ _ (pyNext (.ref s.heap.objs.size) >>= _) _ E _
  refine wpAny_bind (setit_next (s := { s with heap := H }) (by simp) hled g0 (kH _ _ ho) n1 fun h₁ b₁ g₁ => ?_)
  refine wpAny_bind (wpAny_holding ?_)
  show wpAny _ _ (pure []) _ E _
  refine wpAny_pure (wpAny_pure ?_)
  rw [if_neg (by simp)]
  refine wpAny_bind (wpAny_holding ?_)
  refine setit_next (s := { s with heap := h₁ }) (by simp) hled g₁ (b₁.extBut _ _ hlt (kH _ _ ho)) n2 fun h₂ b₂ g₂ => ?_
  rw [if_pos (by simp)]
  refine wpAny_bind (wpAny_rule ?_)
  exact wpAny_bind (wpAny_raiseErrorMade plainExc_ValueError hh (fun h' tk e x => hE h₂ h' tk e (fun c o hc e => b₂.extBut c o hc (b₁.extBut c o hc (kH c o e))) x) (by rw [_root_.PySem.ofString_length]; decide +kernel))
end

section
variable {w : World} {O : Addr → Prop} {k : Nat} {env : Env} {ρ : Ctx}

/-- `x, = {e for y in paths}` over two that give one bool -/
theorem Ex.unpackSet {x px kk tp pos} {elt iter : Expr} {y : Str} {py : Pos} {scope : Scope} {pos' : Pos} {cl : List (Str × Addr)} {ρf : Ctx} {dv d₁ d₂ : D} {ρ₁} (F : D → Bool) (b : Bool) (h1 : F d₁ = b) (h2 : F d₂ = b)
    (ev : Ev w k env ρ iter dv) (it : Its w k dv [d₁, d₂]) (FO : FreeOk env scope cl y ρ ρf)
    (elts : ∀ d ∈ [d₁, d₂], ∀ C, Ev w k (compEnvC scope cl C env) ((y, d) :: ρf) elt (.bool (F d))) (u : Upd ρ x (.bool b) ρ₁)
    (hs : swapsWithSole [.Tuple [.Name x px] kk tp] (.SetComp elt [⟨.Name y py, iter, [], 0⟩] scope pos') pos.line env = pure false := by with_unfolding_all rfl)
    (hw : swappedStores [.Tuple [.Name x px] kk tp] (.SetComp elt [⟨.Name y py, iter, [], 0⟩] scope pos') env = pure none := by with_unfolding_all rfl)
    (hcell : ∀ y ∈ scope.names, y.2 ≠ .cell := by decide) (hkind : scope.kind = .function := by with_unfolding_all rfl)
    (hnames : ∀ y ∈ scope.names, y.2 = .local → scope.names.lookup y.1 = some .local := by decide) (hx : scope.names.lookup y = some .local := by with_unfolding_all rfl)
    (hsI : ∀ x, foldedSetIterable iter env x = pure x := by intro _; with_unfolding_all rfl) :
    Ex w O k env ρ (.Assign [.Tuple [.Name x px] kk tp] (.SetComp elt [⟨.Name y py, iter, [], 0⟩] scope pos') pos) (.next ρ₁) := fun h₀ N A s E R S => by
  refine Assign_Tuple (wpAny_mono (setcomp F (by simp) ev it FO elts hcell hkind hnames hx hsI R S) (fun v s₁ h₁ => ?_) fun _ _ x => x) hs hw
  obtain ⟨a, rfl, hfresh, hS, K⟩ := h₁
  have S₁ := S.keeps (kHeap K)
  have hB : ([d₁, d₂].map F).foldl addB [] = [b] := by
    simp only [List.map, List.foldl, h1, h2]
    cases b <;> rfl
  rw [hB] at hS
  rw [assign_Tuple]
  refine wpAny_bind (wpAny_standAt ?_)
  show wpAny _ A (unpack (.ref a) [(false, PySem.assign (.Name x px) env)]) _ E _
  unfold unpack
  refine wpAny_bind (wpAny_holding (unpack_one R.2.2 hS fun h' he => ?_))
  have K' : Keeps s₁ { s₁ with heap := h' } := kMk (extBut_new he)
  show wpAny _ A (do holding [] (PySem.assign (.Name x px) env (.bool b)); pure ()) _ E _
  refine wpAny_bind (wpAny_holding (wpAny_mono (bindN (s := { s₁ with heap := h' }) (S₁.keeps (kHeap K')) u rfl) (fun _ s₂ h₂ => wpAny_pure ?_) fun _ _ x => x))
  exact ⟨⟨rfl, h₂.1.1⟩, (kMoves (kTrans K K')).trans h₂.1.2⟩
end
end Mine
end

section
open PySem PySem.W PyProof.Rows PySem.Calls
set_option maxRecDepth 100000
set_option maxHeartbeats 2000000
namespace Mine

/-- the turns of `for x, y in enumerate(..)` -/
inductive ForED (w : World) (O : Addr → Prop) (k : Nat) (env : Env) (x y : Str) (body : List Stmt) : Nat → List D → Ctx → Out → Prop
  | done {i : Nat} {ρ : Ctx} : ForED w O k env x y body i [] ρ (.next ρ)
  | step {i : Nat} {d : D} {ρ ρ₁ ρ₂ ρ' : Ctx} {rest : List D} {o : Out} : Upd ρ x (.int (i : Int)) ρ₁ → Upd ρ₁ y d ρ₂ → Exs w O k env ρ₂ body (.next ρ') → ForED w O k env x y body (i + 1) rest ρ' o → ForED w O k env x y body i (d :: rest) ρ o
  | brk {i : Nat} {d : D} {ρ ρ₁ ρ₂ ρ' : Ctx} {rest : List D} : Upd ρ x (.int (i : Int)) ρ₁ → Upd ρ₁ y d ρ₂ → Exs w O k env ρ₂ body (.brk ρ') → ForED w O k env x y body i (d :: rest) ρ (.next ρ')

/-- an expression that gives an enumeration of a list -/
def EnumOf (w : World) (k : Nat) (env : Env) (ρ : Ctx) (iter : Expr) (ds : List D) : Prop :=
  ∀ (h₀ : Heap) (N O : Addr → Prop) (A : Around) (s : Shared) (E : Value → Shared → Prop), Room k A → St h₀ N O env s.heap ρ →
    wpAny (model PG w) A (eval iter env) (fun v s₁ => ∃ e it l vs, v = .ref e ∧ IsEnum s₁.heap e it 0 .none ∧ s₁.heap.IsListIter it l 0 ∧ s₁.heap.IsList l vs.toArray ∧ Reps N s₁.heap ds vs ∧ ¬ N l ∧
      s.heap.get? e = none ∧ s.heap.get? it = none ∧ e ≠ it ∧ l ≠ e ∧ l ≠ it ∧ Keeps s s₁) E s

section
variable {w : World} {O : Addr → Prop} {k : Nat} {env : Env} {ρ : Ctx}

theorem Ex.forEnum {x y px py kk tp iter body pos ds o} (ev : EnumOf w k env ρ iter ds) (D : ForED w O k env x y body 0 ds ρ o)
    (hs : ∀ x, foldedSetIterable iter env x = pure x := by intro _; with_unfolding_all rfl) :
    Ex w O k env ρ (.For (.Tuple [.Name x px, .Name y py] kk tp) iter body [] pos) o := fun h₀ N A s E R S => by
  refine wpAny_For (wpAny_mono (ev h₀ N O A s _ R S) (fun v s₂ h₂ => ?_) fun _ _ x => x) hs
  obtain ⟨e, it, l, vs, rfl, he, hit, hl, hr, nl, fe, fi, hei, hle, hli, K⟩ := h₂
  refine wpAny_pyIter_enum he ?_
  have S₂ := S.keeps (kHeap K)
  have hwr : ∀ b ∈ [e, it], s.heap.get? b = none := fun b hb => by
    rcases List.mem_cons.1 hb with rfl | hb
    · exact fe
    · rw [List.mem_singleton.1 hb]; exact fi
  have wW : ∀ b ∈ [e, it], ¬ WO O env b := fun b hb hw => by
    have hf := hwr b hb
    rcases hw with hw | hw
    · rcases hw with rfl | ⟨y, hy⟩
      · obtain ⟨m, o', _, _, e', _⟩ := S.ns; rw [hf] at e'; cases e'
      · obtain ⟨ov, o', e', _⟩ := S.cells y b hy; rw [hf] at e'; cases e'
    · obtain ⟨o', e'⟩ := S.al b (S.sub b hw); rw [hf] at e'; cases e'
  have lW : ¬ WO O env l := fun hw => by
    obtain ⟨o', e', _, _, d'⟩ := id hl
    rcases hw with hw | hw
    · exact S₂.wr_noseq hw e' d'
    · exact nl (S₂.sub _ hw)
  have lwr : l ∉ [e, it] := by simp [hle, hli]
  refine codeAny_forLoop_any (fun n s' => ∃ i rest old ρ', n = rest.length ∧ ds.drop i = rest ∧ i + rest.length = ds.length ∧ IsEnum s'.heap e it (i : Int) old ∧ s'.heap.IsListIter it l i ∧ St h₀ N O env s'.heap ρ' ∧ ForED w O k env x y body i rest ρ' o ∧ Moves (fun b => WO O env b ∨ b ∈ [e, it]) s₂ s')
    ?_ ds.length ⟨0, ds, _, ρ, rfl, rfl, by omega, he, hit, S₂, D, .refl _ _⟩
  rintro n s' ⟨i, rest, old, ρ', rfl, hdrop, hlen, Ti, Hi, S', D', M⟩
  have fin : ∀ s'' , Moves (fun b => WO O env b ∨ b ∈ [e, it]) s₂ s'' → Moves (WO O env) s s'' := fun s'' M' => by
    obtain ⟨h'', tk'', e'', q''⟩ := M'
    obtain ⟨h1, t1, e1, q1⟩ := id K
    refine ⟨h'', tk'', by rw [e'', e1], fun b o nb e => q'' b o ?_ (kHeap K b o e)⟩
    rintro (h | h)
    · exact nb h
    · rw [hwr b h] at e; cases e
  have stepM : ∀ (h' : Heap) (tk : Nat), (∀ b o, b ∉ [e, it] → s'.heap.get? b = some o → h'.get? b = some o) → Moves (fun b => WO O env b ∨ b ∈ [e, it]) s₂ { s' with heap := h', toks := tk } := fun h' tk hk => M.trans ⟨h', tk, rfl, fun b o nb e => hk b o (fun h => nb (.inr h)) e⟩
  have nsq : ∀ b ∈ [e, it], ∀ o xs n, s'.heap.get? b = some o → o.data ≠ .seq xs n := fun b hb o xs n e' d' => by
    rcases List.mem_cons.1 hb with rfl | hb
    · rw [Ti] at e'; cases e'; cases d'
    · rw [List.mem_singleton.1 hb] at e'
      obtain ⟨o2, e2, _, d2⟩ := Hi
      rw [e'] at e2; cases e2; rw [d'] at d2; cases d2
  have hl' : s'.heap.IsList l vs.toArray := let ⟨o2, e2, r2⟩ := hl; ⟨o2, M.heap _ _ (fun h => h.elim lW lwr) e2, r2⟩
  have hvl : vs.length = ds.length := hr.length
  cases rest with
  | nil =>
    have hi : i = ds.length := by simpa using hlen
    subst hi
    cases D'
    refine wpAny_pyNext_enum_end R.2.2 Ti Hi hl' (by simp [hvl]) fun h' hx => wpAny_execs_nil ?_
    have hk : ∀ b o, b ∉ [e, it] → s'.heap.get? b = some o → h'.get? b = some o := fun b o nb e' => hx b o (fun h => nb (by simp [h])) e'
    exact ⟨⟨rfl, S.iter S' hwr nsq hk⟩, fin _ (stepM h' s'.toks hk)⟩
  | cons d rest =>
    have hi : i < ds.length := by simp only [List.length_cons] at hlen; omega
    have hdi : ds[i]? = some d := by
      have := congrArg List.head? hdrop
      rw [List.head?_drop] at this; simpa using this
    have hdrop' : ds.drop (i + 1) = rest := by
      have := congrArg List.tail hdrop
      rw [List.tail_drop] at this; simpa using this
    have hvi : ∃ v, vs[i]? = some v := ⟨vs[i]'(by omega), List.getElem?_eq_getElem (by omega)⟩
    obtain ⟨v, hv⟩ := hvi
    have rv0 : Rep N s₂.heap d v := by
      obtain ⟨d2, e2, r2⟩ := hr.at hv
      rw [hdi] at e2; cases e2; exact r2
    refine wpAny_pyNext_enum_item Ti Hi hl' (by simpa using hv) hei fun h₁ heo hit₁ ht₁ hz₁ hk₁ => ?_
    refine wpAny_letOwnedTupleGo_enum heo fun h₂ he₂ hs₂ => ?_
    replace hs₂ : Heap.SameBut e h₁ h₂ := hs₂
    have hlt := Heap.lt_size Ti
    have ht₂ : h₂.IsTuple s'.heap.objs.size #[.int i s'.toks, v] := ⟨_, hs₂.extBut _ _ (Nat.ne_of_gt hlt) ht₁, rfl, _, rfl⟩
    have hk : ∀ b o, b ∉ [e, it] → s'.heap.get? b = some o → h₂.get? b = some o := fun b o nb e' => hs₂.extBut b o (fun h => nb (by simp [h])) (hk₁ b o (fun h => nb (by simp [h])) (fun h => nb (by simp [h])) e')
    have Sh : St h₀ N O env h₂ ρ' := S.iter S' hwr nsq hk
    have Mh := stepM h₂ (s'.toks + 1) hk
    have Hi₂ : h₂.IsListIter it l (i + 1) := let ⟨o2, e2, r2⟩ := hit₁; ⟨o2, hs₂.extBut _ _ (Ne.symm hei) e2, r2⟩
    have rv : Rep N h₂ d v := by
      refine Rep.stay (h := s₂.heap) (fun b o xs n nb e' dd => ?_) d v rv0
      have nwr : b ∉ [e, it] := fun h => by
        rcases List.mem_cons.1 h with rfl | h
        · rw [he] at e'; cases e'; cases dd
        · rw [List.mem_singleton.1 h] at e'
          obtain ⟨o2, e2, _, d2⟩ := hit
          rw [e'] at e2; cases e2; rw [dd] at d2; cases d2
      refine hk b o nwr (M.heap b o ?_ e')
      rintro ((h | h) | h)
      · exact S₂.wr_noseq h e' dd
      · exact nb (S₂.sub b h)
      · exact nwr h
    have go : ∀ {ρ₁ ρ₂ : Ctx} {o' : Out} (u : Upd ρ' x (.int (i : Int)) ρ₁) (u' : Upd ρ₁ y d ρ₂) (X : Exs w O k env ρ₂ body o') (Q : Flow → Shared → Prop) (E' : Value → Shared → Prop),
        (∀ f s'', o'.Is h₀ N O env f s'' → Moves (fun b => WO O env b ∨ b ∈ [e, it]) s₂ s'' → IsEnum s''.heap e it ((i : Int) + 1) v → s''.heap.IsListIter it l (i + 1) → Q f s'') →
        wpAny (model PG w) A (PySem.assign (.Tuple [.Name x px, .Name y py] kk tp) env (.ref s'.heap.objs.size)) (fun _ s₂ => wpAny (model PG w) A (execs body env) Q E' s₂) E' { s' with heap := h₂, toks := s'.toks + 1 } := fun u u' X Q E' hQ => by
      refine wpAny_assign_Tuple R.2.2 ht₂ rfl rfl fun h₃ hx₃ => ?_
      have K₃ : Keeps { s' with heap := h₂, toks := s'.toks + 1 } { s' with heap := h₃, toks := s'.toks + 1 } := kMk (extBut_new hx₃)
      have S₃ := Sh.keeps (kHeap K₃)
      show wpAny _ A (do holding [v] (PySem.assign (.Name x px) env (.int i s'.toks)); assignInOrder [PySem.assign (.Name y py) env] [v]) _ E' _
      refine wpAny_bind (wpAny_holding (wpAny_mono (bindN (s := { s' with heap := h₃, toks := s'.toks + 1 }) S₃ u .int_mk) (fun _ s₄ h₄ => ?_) fun _ _ x => x))
      show wpAny _ A (do holding [] (PySem.assign (.Name y py) env v); pure ()) _ E' _
      refine wpAny_bind (wpAny_holding (wpAny_mono (bindN h₄.1.1 u' ((rv.keeps (kHeap K₃)).stay (h₄.2 N))) (fun _ s₅ h₅ => wpAny_pure ?_) fun _ _ x => x))
      have M5 := (kMoves (W := WO O env) K₃).trans (h₄.1.2.trans h₅.1.2)
      refine wpAny_mono (X h₀ N A s₅ _ R h₅.1.1) (fun f s₆ h₆ => hQ f s₆ h₆.1 ?_ ?_ ?_) fun _ _ x => x
      · obtain ⟨_, _, e1, q1⟩ := M5.trans h₆.2
        exact Mh.trans ⟨_, _, e1, fun b o nb e => q1 b o (fun h => nb (.inl h)) e⟩
      · exact (M5.trans h₆.2).heap _ _ (wW _ (by simp)) he₂
      · obtain ⟨o2, e2, r2⟩ := Hi₂
        exact ⟨o2, (M5.trans h₆.2).heap _ _ (wW _ (by simp)) e2, r2⟩
    cases D' with
    | step u u' X D'' =>
      refine go u u' X _ _ fun f s'' hI M' T' H' => ?_
      obtain ⟨rfl, S''⟩ := hI
      exact ⟨rest.length, by simp, i + 1, rest, _, _, rfl, hdrop', by simp only [List.length_cons] at hlen; omega, by push_cast; exact T', H', S'', D'', M'⟩
    | brk u u' X =>
      refine go u u' X _ _ fun f s'' hI M' T' H' => ?_
      obtain ⟨rfl, S''⟩ := hI
      exact ⟨⟨rfl, S''⟩, fin _ M'⟩
end
end Mine
end

section
open PySem PySem.W PyProof.Rows PySem.Calls
set_option maxRecDepth 100000
namespace Mine
section
variable {w : World} {O : Addr → Prop} {k : Nat} {env : Env} {ρ : Ctx}
theorem EnumOf.name {p1 p2 pos : Pos} {x : Str} {ds : List D} (at' : At ρ x (.list ds))
    (h1 : env.kindOf (Str.ofString "enumerate") = some .globalImplicit := by with_unfolding_all rfl)
    (he1 : starEach [.Name x p2] env = (false, eval (.Name x p2) env) :: starEach [] env := by with_unfolding_all rfl)
    (hp1 : ∀ pos, (backTo pos (starEach [] env)).any (·.1) = false := by intro _; with_unfolding_all rfl) :
    EnumOf w k env ρ (.Call (.Name (Str.ofString "enumerate") p1) [.Name x p2] [] pos) ds := fun h₀ N O A s E R S => by
  refine Call_ (bltName S h1 (by decide) free_enumerate (by decide +kernel : bootBuiltins (Str.ofString "enumerate") = some (.type "enumerate")) ?_)
  rw [he1]
  refine PySem.callWith_type (by show (false || (backTo pos (starEach [] env)).any (·.1)) = false; rw [hp1]; rfl) ?_
  refine evalArgs_plain (x := eval _ env) (rest := backTo pos (starEach [] env)) ?_
  show wpAny _ A (spliced (backTo pos ((false, eval (.Name x p2) env) :: starEach [] env))) _ _ _
  rw [← he1]
  refine wpAny_mono ((Evs.cons (Ev.name at' rfl) .nil (he := he1) : Evs w k env ρ [.Name x p2] [.list ds]) h₀ N O A s E pos R S) (fun us s₁ h₁ => ?_) fun _ _ x => x
  obtain ⟨v, rfl, rv⟩ := h₁.1.one_inv
  obtain ⟨l, vs, rfl, nl, hl, rs⟩ := rv.list_inv
  have hlt : l < s₁.heap.objs.size := let ⟨o, ho, _⟩ := hl; Heap.lt_size ho
  refine call_enumerate_list hl fun h' g1 g2 g3 g4 => ?_
  have K : Keeps s₁ { s₁ with heap := h' } := kMk g4
  refine ⟨_, _, l, vs, rfl, g1, g2, let ⟨o, ho, r⟩ := hl; ⟨o, g4 _ _ ho, r⟩, rs.keeps g4, nl, ?_, ?_, Nat.succ_ne_self _, Nat.ne_of_lt (Nat.lt_succ_of_lt hlt), Nat.ne_of_lt hlt, kTrans h₁.2 K⟩
  · cases e : s.heap.get? (s₁.heap.objs.size + 1) with
    | none => rfl
    | some o => exact absurd (Heap.lt_size (kHeap h₁.2 _ _ e)) (Nat.not_lt_of_le (Nat.le_succ _))
  · cases e : s.heap.get? s₁.heap.objs.size with
    | none => rfl
    | some o => exact absurd (Heap.lt_size (kHeap h₁.2 _ _ e)) (Nat.lt_irrefl _)
end
end Mine
end

section
open PySem PySem.W PyProof.Rows PySem.Calls
set_option maxRecDepth 100000
set_option maxHeartbeats 2000000
namespace Mine
section
variable {w : World} {O : Addr → Prop} {k : Nat} {env : Env} {ρ : Ctx}
theorem Ex.listcompA {y : Str} {py spos : Pos} {ρ₁ : Ctx} {elt iter : Expr} {x : Str} {px : Pos} {ifs : List Expr} {scope : Scope} {pos : Pos} {cl : List (Str × Addr)} {ρf : Ctx} {dv : D} {ds : List D} (p : D → Bool) (F : D → D)
    (ev : Ev w k env ρ iter dv) (it : Its w k dv ds) (FO : FreeOk env scope cl x ρ ρf)
    (u : Upd ρ y (.list ((ds.filter p).map F)) ρ₁)
    (tests : ∀ d ∈ ds, ∀ (h₀ : Heap) (N O : Addr → Prop) (C : Addr) (A : Around) (s : Shared) (E : Value → Shared → Prop), Room k A → St h₀ N O (compEnvC scope cl C env) s.heap ((x, d) :: ρf) →
      wpAny (model PG w) A (forIn ifs true fun c r => if r = true then do let ok ← isTrue c (compEnvC scope cl C env) (eval c (compEnvC scope cl C env)); pure (ForInStep.yield ok) else pure (ForInStep.yield r)) (fun ok s' => ok = p d ∧ Keeps s s') E s)
    (elts : ∀ d ∈ ds, p d = true → ∀ C, Ev w k (compEnvC scope cl C env) ((x, d) :: ρf) elt (F d))
    (hcell : ∀ y ∈ scope.names, y.2 ≠ .cell := by decide) (hkind : scope.kind = .function := by with_unfolding_all rfl)
    (hnames : ∀ y ∈ scope.names, y.2 = .local → scope.names.lookup y.1 = some .local := by decide) (hx : scope.names.lookup x = some .local := by with_unfolding_all rfl)
    (hs : ∀ x, foldedSetIterable iter env x = pure x := by intro _; with_unfolding_all rfl)
    (hsw : swapsWith (.ListComp elt [⟨.Name x px, iter, ifs, 0⟩] scope pos) (some (.Name y py)) spos.line env = pure true := by with_unfolding_all rfl) :
    Ex w O k env ρ (.Assign [.Name y py] (.ListComp elt [⟨.Name x px, iter, ifs, 0⟩] scope pos) spos) (.next ρ₁) := fun h₀ N A s E R S => by
  rw [exec_Assign_Name_used _ _ _ _ hsw]
  refine wpAny_bind (wpAny_standAt (wpAny_bind ?_))
  refine wpAny_mono (Q := fun (_ : Unit) s' => St h₀ N O env s'.heap ρ₁ ∧ Moves (WO O env) s s') (E := E) ?_ (fun _ s' h => wpAny_pure ⟨⟨rfl, h.1⟩, h.2⟩) fun _ _ x => x
  show wpAny _ A (do let _ ← comprehension _ _ _ _ _ _ _ _) _ E s
  refine wpAny_bind (wpAny_mono (Q := fun (_ : Value) s' => St h₀ N O env s'.heap ρ₁ ∧ Moves (WO O env) s s') (E := E) ?_ (fun _ _ h => wpAny_pure h) fun _ _ x => x)
  refine wpAny_comprehension_free (use := some (PySem.assign (.Name y py) env)) rfl hs FO.clos hkind hnames (wpAny_mono (ev h₀ N O A s E R S) (fun v s₁ h₁ => ?_) fun _ _ x => x)
  have S₁ := S.keeps (kHeap h₁.2)
  refine wpAny_mono (it N A s₁ E v R S₁.gh S₁.al h₁.1) (fun itv s₂ h₂ => ?_) fun _ _ x => x
  obtain ⟨I, fp, wr, P, T, rfl, W, T0, K, hlt, hfp, hwr, hns, hP, hsz⟩ := h₂
  have S₂ := S₁.keeps (kHeap K)
  refine wpAny_newObj_type (wpAny_newFunctionEnv hcell (by intro y hy; simp at hy) (fun h₃ hns₃ hsb₃ => ?_) hkind)
  dsimp only at hns₃ hsb₃ ⊢
  generalize hH : s₂.heap.push { cls := .type "list", dict := Option.none, data := .seq ([] : List Value).toArray } = H at hns₃ hsb₃ ⊢
  generalize hDd : s₂.heap.objs.size = Dl
  generalize hCd : H.objs.size = C at hns₃ hsb₃ ⊢
  have hDC : Dl + 1 = C := by rw [← hCd, ← hH, Heap.size_push, hDd]
  have hDC' : Dl ≠ C := Nat.ne_of_lt (by omega)
  have old : ∀ b o, s₂.heap.get? b = some o → h₃.get? b = some o := fun b o e => by
    have hb := ltN e
    exact hsb₃.extBut b o (Nat.ne_of_lt (by omega)) (Heap.get?_push_of_some _ (hH ▸ Heap.get?_push_of_some _ e))
  have hacc : h₃.PlainList Dl #[] := ⟨_, hsb₃.extBut _ _ hDC' (Heap.get?_push_of_some _ (hH ▸ hDd ▸ Heap.get?_push_size _ rfl))⟩
  have fresh : ∀ a : Nat, Dl ≤ a → s₂.heap.get? a = Option.none := fun a ha => by
    cases e : s₂.heap.get? a with
    | none => rfl
    | some o' => exact absurd (ltN e) (by omega)
  have hDf : Dl ∉ fp := fun hm => by have h : Dl < s₂.heap.objs.size := hlt _ hm; omega
  have hCf : C ∉ fp := fun hm => by have h : C < s₂.heap.objs.size := hlt _ hm; omega
  have hDw : Dl ∉ wr := fun hm => hDf (W.sub _ hm)
  have hCw : C ∉ wr := fun hm => hCf (W.sub _ hm)
  have T3 : T 0 h₃ := W.frame _ _ _ T0 fun b _ o e => old b o e
  have nD : ¬ N Dl := S₂.al.above (Nat.le_of_eq hDd)
  have keepAll : ∀ (h' : Heap) (tk : Nat), (∀ b o, b ≠ C → b ∉ wr → b ≠ Dl → s₂.heap.get? b = some o → h'.get? b = some o) → Keeps s { s₂ with heap := h', toks := tk } := fun h' tk q => by
    obtain ⟨h1, t1, e1, q1⟩ := kTrans h₁.2 K
    subst e1
    refine ⟨h', tk, rfl, fun b o e => q b o (fun hb => ?_) (fun hb => ?_) (fun hb => ?_) (q1 b o e)⟩
    · have := q1 b o e; rw [hb] at this; rw [fresh C (by omega)] at this; cases this
    · have := kHeap h₁.2 b o e; rw [hwr b hb] at this; cases this
    · have := q1 b o e; rw [hb] at this; rw [fresh Dl (by omega)] at this; cases this
  -- the loop
  have loop : ∀ s₃ : Shared, s₃ = { s₂ with heap := h₃, toks := s₂.toks + ([] : List (Str × Value)).length } →
      codeAny (model PG w) A (.compLoop (.ListComp elt [⟨.Name x px, iter, ifs, 0⟩] scope pos) 0 (.ref I) (.ref Dl) (compEnvC scope cl C env))
        (compPost (model PG w) A E (some (PySem.assign (.Name y py) env)) (fun v s' => St h₀ N O env s'.heap ρ₁ ∧ Moves (WO O env) s s') (.ref Dl) C) s₃ := by
    rintro s₃ rfl
    refine codeAny_compLoop_tests (fun n s' => ∃ i rest m ys, n = rest.length ∧ ds.drop i = rest ∧ i + rest.length = ds.length ∧ T i s'.heap ∧ s'.heap.PlainList Dl ys ∧ s'.heap.Ns C m ∧
        Reps (fun b => N b ∨ b = Dl) s'.heap (((ds.take i).filter p).map F) ys.toList ∧ (∀ b o, b ≠ C → b ∉ wr → b ≠ Dl → s₂.heap.get? b = some o → s'.heap.get? b = some o) ∧ ∃ h' tk, s' = { s₂ with heap := h', toks := tk }) ?_ ds.length
      ⟨0, ds, _, #[], rfl, rfl, by omega, T3, hacc, hns₃, by simpa using Reps.nil, fun b o _ _ _ e => old b o e, _, _, rfl⟩
    rintro n s' ⟨i, rest, m, ys, rfl, hdrop, hlen, Ti, hl, hn, hR, hk, h', tk, rfl⟩
    have nsq : ∀ b ∈ wr, ∀ o xs n, h'.get? b = some o → o.data ≠ .seq xs n := fun b hb o xs n e => hns i h' b o xs n Ti hb e
    have nsC : ∀ {h4 : Heap} {m4 : Str → Option Value}, h4.Ns C m4 → ∀ o xs n, h4.get? C = some o → o.data ≠ .seq xs n := fun hn o xs n e d => by
      obtain ⟨o', es, ep, e', d', _⟩ := hn
      rw [e] at e'; cases e'; rw [d] at d'; cases d'
    cases rest with
    | nil =>
      have hi : i = ds.length := by simpa using hlen
      subst hi
      refine W.done _ _ _ Ti fun h'' tk' hk' => ?_
      have hn' : h''.Ns C m := hn.at' fun o e => hk' _ o hCw e
      have kp : Keeps s { s₂ with heap := h'', toks := tk' } := keepAll h'' tk' fun b o h1 h2 h3 e => hk' b o h2 (hk b o h1 h2 h3 e)
      have l4 : h''.IsList Dl ys.toList.toArray := by
        rw [Array.toArray_toList]
        exact (hl.at fun o e => hk' _ o hDw e).isList
      have rp : Rep N h'' (.list ((ds.filter p).map F)) (.ref Dl) := by
        refine Rep.list_mk nD l4 ?_
        rw [List.take_of_length_le (Nat.le_refl _)] at hR
        refine Reps.less (N := fun b => N b ∨ b = Dl) (fun b h => .inl h) _ _ ?_
        exact Reps.stay (h := h') (h' := h'') (fun b o xs n _ e d => hk' b o (fun hb => nsq b hb o xs n e d) e) _ _ hR
      have fC : s.heap.get? C = Option.none := by
        cases e : s.heap.get? C with
        | none => rfl
        | some o => have := kHeap (kTrans h₁.2 K) _ _ e; rw [fresh C (by omega)] at this; cases this
      have wC : ¬ WO O env C := fun hw => by
        rcases hw with hw | hw
        · rcases hw with hw | ⟨z, hz⟩
          · obtain ⟨m, o', _, _, e', _⟩ := S.ns; rw [← hw, fC] at e'; cases e'
          · obtain ⟨ov, o', e', _⟩ := S.cells z C hz; rw [fC] at e'; cases e'
        · obtain ⟨o', e'⟩ := S.al C (S.sub C hw); rw [fC] at e'; cases e'
      refine wpAny_mono (bindN (s := { s₂ with heap := h'', toks := tk' }) (S.keeps (kHeap kp)) u rp) (fun _ s5 h5 => ?_) fun _ _ x => x
      have hn5 : s5.heap.Ns C m := hn'.at' fun o e => h5.1.2.heap _ o wC e
      refine ⟨m, hn5, fun h6 hs6 => ?_⟩
      have hs6' : Heap.SameBut C s5.heap h6 := hs6
      refine ⟨S.iter (wr := [C]) h5.1.1 (fun b hb => by rw [List.mem_singleton.1 hb]; exact fC) (fun b hb o xs n e d => by rw [List.mem_singleton.1 hb] at e; exact nsC hn5 o xs n e d) (fun b o hb e => hs6'.extBut b o (fun h => hb (by simp [h])) e), ?_⟩
      obtain ⟨h7, t7, e7, q7⟩ := (kMoves (W := WO O env) kp).trans h5.1.2
      refine ⟨h6, t7, by rw [e7], fun b o nb e => hs6'.extBut b o (fun h => by rw [h, fC] at e; cases e) ?_⟩
      have := q7 b o nb e
      rw [e7]; exact this
    | cons d rest =>
      have hi : i < ds.length := by simp only [List.length_cons] at hlen; omega
      have hdi : ds[i]? = some d := by
        have := congrArg List.head? hdrop
        rw [List.head?_drop] at this; simpa using this
      have hdm : d ∈ ds := List.mem_of_getElem? hdi
      have hdrop' : ds.drop (i + 1) = rest := by
        have := congrArg List.tail hdrop
        rw [List.tail_drop] at this; simpa using this
      have htake : ds.take (i + 1) = ds.take i ++ [d] := by rw [List.take_add_one, hdi]; rfl
      refine W.item i _ _ _ hi Ti fun v' h4 tk4 hPv T4 hk4 => ?_
      have hn4 : h4.Ns C m := hn.at' fun o e => hk4 _ o hCw e
      refine wpAny_assign_Name (wpAny_storeName_local (env := compEnvC scope cl C env) (lookup_relabel_local hx) hn4 (fun h5 hn5 hs5 => ?_) (by simp [compEnvC, relabel, hkind]))
      have hs5' : Heap.SameBut C h4 h5 := hs5
      have T5 : T (i + 1) h5 := W.frame _ _ _ T4 fun b hb o e => hs5'.extBut b o (fun h => hCf (h ▸ hb)) e
      have up : ∀ b o, b ≠ C → b ∉ wr → b ≠ Dl → s₂.heap.get? b = some o → h5.get? b = some o := fun b o h1 h2 h3 e => hs5'.extBut b o h1 (hk4 b o h2 (hk b o h1 h2 h3 e))
      have l5 : h5.PlainList Dl ys := (hl.at fun o e => hk4 _ o hDw e).extBut hs5'.extBut hDC'
      have sk5 : ∀ M, SeqKeep M h' h5 := fun M b o xs n _ e dd => hs5'.extBut b o (fun hb => by subst hb; exact nsC hn o xs n e dd) (hk4 b o (fun hb => nsq b hb o xs n e dd) e)
      have R5 := Reps.stay (sk5 _) _ _ hR
      have rd : Rep (fun b => N b ∨ b = Dl) h5 d v' := by
        have r2 : Rep N s₂.heap d v' := hP i v' d hPv hdi
        have r3 : Rep (fun b => N b ∨ b = Dl) s₂.heap d v' := r2.more fun b o e hb => by
          rcases hb with hb | hb
          · exact hb
          · rw [hb, fresh Dl (by omega)] at e; cases e
        refine r3.stay fun b o xs n nb e dd => up b o (fun hb => ?_) (fun hb => ?_) (fun hb => nb (.inr hb)) e
        · rw [hb, fresh C (by omega)] at e; cases e
        · exact hns 0 s₂.heap b o xs n T0 hb e dd
      have Kw : ∀ b o, s₂.heap.get? b = some o → b ∉ wr → h5.get? b = some o := fun b o e hb => up b o (fun h => by rw [h, fresh C (by omega)] at e; cases e) hb (fun h => by rw [h, fresh Dl (by omega)] at e; cases e) e
      -- the frame: of the objects before the iterator
      have S5 : St h₀ (fun b => N b ∨ b = Dl) (fun b => b = Dl) (compEnvC scope cl C env) h5 ((x, d) :: ρf) := by
        refine St.comp (h := s₁.heap) S₁ FO hkind hx ?_ ?_ ⟨_, l5.choose_spec⟩ (fun b o e => Kw b o (kHeap K b o e) fun hb => by rw [hwr b hb] at e; cases e) hn5 (by simp) rd
        · cases e : s₁.heap.get? C with
          | none => rfl
          | some o => have := kHeap K _ _ e; rw [fresh C (by omega)] at this; cases this
        · cases e : s₁.heap.get? Dl with
          | none => rfl
          | some o => have := kHeap K _ _ e; rw [fresh Dl (by omega)] at this; cases this
      refine wpAny_mono (tests d hdm h₀ _ _ C A { s₂ with heap := h5, toks := _ } _ R S5) (fun ok s6 h6 => ?_) fun _ _ x => x
      obtain ⟨rfl, h6', tk6, rfl, k6⟩ := h6
      cases hp : p d with
      | false =>
        simp only [Bool.false_eq_true, if_false]
        refine ⟨rest.length, by simp, i + 1, rest, _, ys, rfl, hdrop', by simp only [List.length_cons] at hlen; omega, W.frame _ _ _ T5 fun b _ o e => k6 b o e, l5.at fun o e => k6 _ o e, hn5.keeps k6, ?_, fun b o h1 h2 h3 e => k6 b o (up b o h1 h2 h3 e), _, _, rfl⟩
        rw [htake, List.filter_append, List.map_append]
        simpa [hp] using R5.keeps k6
      | true =>
        simp only [if_true]
        refine wpAny_mono (elts d hdm hp C h₀ _ _ A _ _ R (S5.keeps k6)) (fun y s7 h7 => ?_) fun _ _ x => x
        obtain ⟨ry, h7', tk7, rfl, k7⟩ := h7
        have hys : ys.size ≤ sizeLine := by
          have e1 := hR.length
          have e2 : (((ds.take i).filter p).map F).length ≤ i := by
            rw [List.length_map]; exact Nat.le_trans (List.length_filter_le _ _) (by rw [List.length_take]; omega)
          have e3 : ys.toList.length = ys.size := by simp
          omega
        refine wpAny_list_append_plain (hsz := hys) ((l5.at fun o e => k6 _ o e).at fun o e => k7 _ o e) fun h8 l8 hs8 => ?_
        refine ⟨rest.length, by simp, i + 1, rest, _, ys.push y, rfl, hdrop', by simp only [List.length_cons] at hlen; omega, ?_, l8, ((hn5.keeps k6).keeps k7).sameBut hs8 (Ne.symm hDC'), ?_, fun b o h1 h2 h3 e => hs8.extBut b o h3 (k7 b o (k6 b o (up b o h1 h2 h3 e))), _, _, rfl⟩
        · exact W.frame _ _ _ T5 fun b hb o e => hs8.extBut b o (fun h => hDf (h ▸ hb)) (k7 b o (k6 b o e))
        · rw [htake, List.filter_append, List.map_append, Array.toList_push]
          refine Reps.append ?_ ?_
          · refine Reps.stay (fun b o xs n nb e dd => hs8.extBut b o (fun h => nb (.inr h)) e) _ _ ((R5.keeps k6).keeps k7)
          · have : (List.filter p [d]).map F = [F d] := by simp [hp]
            rw [this]
            exact .cons (ry.stay fun b o xs n nb e dd => hs8.extBut b o (fun h => nb (.inr h)) e) .nil
  exact codeAny_compStart_list (loop _ rfl) (W.self 0 _ _ _ T3 (loop _ rfl))
open Classical in
theorem Ex.compA {y : Str} {py spos : Pos} {ρ₁ : Ctx} {α : Type} {elt iter : Expr} {x : Str} {px : Pos} {ifs : List Expr} {scope : Scope} {pos : Pos} {cl : List (Str × Addr)} {ρf : Ctx} {dv : D} (enc : α → D) (inj : ∀ a b, enc a = enc b → a = b) (as : List α) (q : α → Bool) (G : α → D)
    (ev : Ev w k env ρ iter dv) (it : Its w k dv (as.map enc)) (FO : FreeOk env scope cl x ρ ρf) (u : Upd ρ y (.list ((as.filter q).map G)) ρ₁)
    (tests : ∀ a ∈ as, ∀ (h₀ : Heap) (N O : Addr → Prop) (C : Addr) (A : Around) (s : Shared) (E : Value → Shared → Prop), Room k A → St h₀ N O (compEnvC scope cl C env) s.heap ((x, enc a) :: ρf) →
      wpAny (model PG w) A (forIn ifs true fun c r => if r = true then do let ok ← isTrue c (compEnvC scope cl C env) (eval c (compEnvC scope cl C env)); pure (ForInStep.yield ok) else pure (ForInStep.yield r)) (fun ok s' => ok = q a ∧ Keeps s s') E s)
    (elts : ∀ a ∈ as, q a = true → ∀ C, Ev w k (compEnvC scope cl C env) ((x, enc a) :: ρf) elt (G a))
    (hcell : ∀ y ∈ scope.names, y.2 ≠ .cell := by decide) (hkind : scope.kind = .function := by with_unfolding_all rfl)
    (hnames : ∀ y ∈ scope.names, y.2 = .local → scope.names.lookup y.1 = some .local := by decide) (hx : scope.names.lookup x = some .local := by with_unfolding_all rfl)
    (hs : ∀ x, foldedSetIterable iter env x = pure x := by intro _; with_unfolding_all rfl)
    (hsw : swapsWith (.ListComp elt [⟨.Name x px, iter, ifs, 0⟩] scope pos) (some (.Name y py)) spos.line env = pure true := by with_unfolding_all rfl) :
    Ex w O k env ρ (.Assign [.Name y py] (.ListComp elt [⟨.Name x px, iter, ifs, 0⟩] scope pos) spos) (.next ρ₁) := by
  have dec : ∀ a, (if h : ∃ b, enc b = enc a then G h.choose else D.undef) = G a := fun a => by
    have h : ∃ b, enc b = enc a := ⟨a, rfl⟩
    rw [dif_pos h, inj _ _ h.choose_spec]
  have decp : ∀ a, (if h : ∃ b, enc b = enc a then q h.choose else false) = q a := fun a => by
    have h : ∃ b, enc b = enc a := ⟨a, rfl⟩
    rw [dif_pos h, inj _ _ h.choose_spec]
  have e : ((as.map enc).filter (fun d => if h : ∃ b, enc b = d then q h.choose else false)).map (fun d => if h : ∃ b, enc b = d then G h.choose else D.undef) = (as.filter q).map G := by
    rw [List.filter_map, List.map_map]
    have e1 : ((fun d => if h : ∃ b, enc b = d then q h.choose else false) ∘ enc) = q := funext fun a => decp a
    have e2 : ((fun d => if h : ∃ b, enc b = d then G h.choose else D.undef) ∘ enc) = G := funext fun a => dec a
    rw [e1, e2]
  have main := Ex.listcompA (O := O) (y := y) (py := py) (spos := spos) (ρ₁ := ρ₁) (w := w) (k := k) (env := env) (ρ := ρ) (elt := elt) (iter := iter) (x := x) (px := px) (ifs := ifs) (scope := scope) (pos := pos) (cl := cl) (ρf := ρf) (dv := dv) (ds := as.map enc)
    (fun d => if h : ∃ b, enc b = d then q h.choose else false) (fun d => if h : ∃ b, enc b = d then G h.choose else D.undef) ev it FO (by rw [e]; exact u)
    (fun d hd => by
      obtain ⟨a, ha, rfl⟩ := List.mem_map.1 hd
      intro h₀ N O C A s E R S
      rw [decp a]
      exact tests a ha h₀ N O C A s E R S)
    (fun d hd hp C => by
      obtain ⟨a, ha, rfl⟩ := List.mem_map.1 hd
      rw [decp a] at hp
      rw [dec a]
      exact elts a ha hp C)
    hcell hkind hnames hx hs hsw
  exact main

theorem Ex.comp0A {y : Str} {py spos : Pos} {ρ₁ : Ctx} {α : Type} {elt iter : Expr} {x : Str} {px : Pos} {scope : Scope} {pos : Pos} {cl : List (Str × Addr)} {ρf : Ctx} {dv : D} (enc : α → D) (inj : ∀ a b, enc a = enc b → a = b) (as : List α) (G : α → D)
    (ev : Ev w k env ρ iter dv) (it : Its w k dv (as.map enc)) (FO : FreeOk env scope cl x ρ ρf) (u : Upd ρ y (.list (as.map G)) ρ₁)
    (elts : ∀ a ∈ as, ∀ C, Ev w k (compEnvC scope cl C env) ((x, enc a) :: ρf) elt (G a))
    (hcell : ∀ y ∈ scope.names, y.2 ≠ .cell := by decide) (hkind : scope.kind = .function := by with_unfolding_all rfl)
    (hnames : ∀ y ∈ scope.names, y.2 = .local → scope.names.lookup y.1 = some .local := by decide) (hx : scope.names.lookup x = some .local := by with_unfolding_all rfl)
    (hs : ∀ x, foldedSetIterable iter env x = pure x := by intro _; with_unfolding_all rfl)
    (hsw : swapsWith (.ListComp elt [⟨.Name x px, iter, [], 0⟩] scope pos) (some (.Name y py)) spos.line env = pure true := by with_unfolding_all rfl) :
    Ex w O k env ρ (.Assign [.Name y py] (.ListComp elt [⟨.Name x px, iter, [], 0⟩] scope pos) spos) (.next ρ₁) := by
  have := Ex.compA (O := O) (y := y) (py := py) (spos := spos) (ρ₁ := ρ₁) (w := w) (k := k) (env := env) (ρ := ρ) (elt := elt) (px := px) (pos := pos) enc inj as (fun _ => true) G ev it FO (by rw [List.filter_eq_self.2 (by simp)]; exact u)
    (fun a ha h₀ N O C A s E R S => by rw [List.forIn_nil]; exact wpAny_pure ⟨rfl, kRefl s⟩) (fun a ha _ C => elts a ha C) hcell hkind hnames hx hs hsw
  exact this

theorem Ex.comp1A {y : Str} {py spos : Pos} {ρ₁ : Ctx} {α : Type} {elt iter c : Expr} {x : Str} {px : Pos} {scope : Scope} {pos : Pos} {cl : List (Str × Addr)} {ρf : Ctx} {dv : D} (enc : α → D) (inj : ∀ a b, enc a = enc b → a = b) (as : List α) (q : α → Bool) (G : α → D)
    (ev : Ev w k env ρ iter dv) (it : Its w k dv (as.map enc)) (FO : FreeOk env scope cl x ρ ρf) (u : Upd ρ y (.list ((as.filter q).map G)) ρ₁)
    (test : ∀ a ∈ as, ∀ C, Tst w k (compEnvC scope cl C env) ((x, enc a) :: ρf) c (q a))
    (elts : ∀ a ∈ as, q a = true → ∀ C, Ev w k (compEnvC scope cl C env) ((x, enc a) :: ρf) elt (G a))
    (hcell : ∀ y ∈ scope.names, y.2 ≠ .cell := by decide) (hkind : scope.kind = .function := by with_unfolding_all rfl)
    (hnames : ∀ y ∈ scope.names, y.2 = .local → scope.names.lookup y.1 = some .local := by decide) (hx : scope.names.lookup x = some .local := by with_unfolding_all rfl)
    (hs : ∀ x, foldedSetIterable iter env x = pure x := by intro _; with_unfolding_all rfl)
    (hsw : swapsWith (.ListComp elt [⟨.Name x px, iter, [c], 0⟩] scope pos) (some (.Name y py)) spos.line env = pure true := by with_unfolding_all rfl) :
    Ex w O k env ρ (.Assign [.Name y py] (.ListComp elt [⟨.Name x px, iter, [c], 0⟩] scope pos) spos) (.next ρ₁) := by
  refine Ex.compA (O := O) (y := y) (py := py) (spos := spos) (ρ₁ := ρ₁) (w := w) (k := k) (env := env) (ρ := ρ) (elt := elt) (px := px) (pos := pos) enc inj as q G ev it FO u
    (fun a ha h₀ N O C A s E R S => ?_) elts hcell hkind hnames hx hs hsw
  rw [List.forIn_cons]
  refine wpAny_bind ?_
  refine if_yes rfl ?_
  refine wpAny_bind (wpAny_mono (test a ha C h₀ N O A s E R S) (fun ok s' h => ?_) fun _ _ x => x)
  refine wpAny_pure ?_
  show wpAny _ A (forIn [] ok _) _ E s'
  rw [List.forIn_nil]
  exact wpAny_pure h
end
end Mine
end

section
open PySem PySem.W PyProof.Rows PySem.Calls
set_option maxRecDepth 100000
namespace Mine
/-- the common beginning -/
def comm : List (List UInt8) → List (List UInt8) → List (List UInt8)
  | a :: as, b :: bs => if a = b then a :: comm as bs else []
  | _, _ => []
theorem comm_take : ∀ (i : Nat) (u v : List (List UInt8)), u.take i = v.take i → comm u v = u.take i ++ comm (u.drop i) (v.drop i)
  | 0, u, v, _ => by simp
  | i + 1, [], [], _ => by simp [comm]
  | i + 1, [], b :: v, h => by simp at h
  | i + 1, a :: u, [], h => by simp at h
  | i + 1, a :: u, b :: v, h => by
    simp only [List.take_succ_cons, List.cons.injEq] at h
    have := comm_take i u v h.2
    simp [comm, h.1, this]
section
variable {w : World} {O : Addr → Prop} {k : Nat} {env : Env} {ρ : Ctx}
theorem Exs.enumCommon {x y s1 : Str} {px py p1 p2 pos1 pos tp : Pos} {kk} {body rest : List Stmt} {o : Out} {u v : List (List UInt8)} (ctx : D → D → List (List UInt8) → Ctx)
    (at' : At (ctx .undef .undef u) s1 (encB u)) (hx : ∀ ci ii i, Upd (ctx ci ii u) x (.int i) (ctx ci (.int i) u)) (hy : ∀ ci ii d, Upd (ctx ci ii u) y d (ctx d ii u))
    (hpre : ∀ i, i < u.length → u.take i = v.take i → i < v.length)
    (heq : ∀ (i : Nat) c, u[i]? = some c → v[i]? = some c → Exs w O k env (ctx (.bytes c) (.int (i : Int)) u) body (.next (ctx (.bytes c) (.int (i : Int)) u)))
    (hne : ∀ (i : Nat) c c', u[i]? = some c → v[i]? = some c' → c ≠ c' → Exs w O k env (ctx (.bytes c) (.int (i : Int)) u) body (.brk (ctx (.bytes c) (.int (i : Int)) (u.take i))))
    (go : ∀ cj ij, Exs w O k env (ctx cj ij (comm u v)) rest o)
    (h1 : env.kindOf (Str.ofString "enumerate") = some .globalImplicit := by with_unfolding_all rfl)
    (he1 : starEach [.Name s1 p2] env = (false, eval (.Name s1 p2) env) :: starEach [] env := by with_unfolding_all rfl)
    (hp1 : ∀ pos, (backTo pos (starEach [] env)).any (·.1) = false := by intro _; with_unfolding_all rfl)
    (hs : ∀ z, foldedSetIterable (.Call (.Name (Str.ofString "enumerate") p1) [.Name s1 p2] [] pos1) env z = pure z := by intro _; with_unfolding_all rfl) :
    Exs w O k env (ctx .undef .undef u) (.For (.Tuple [.Name x px, .Name y py] kk tp) (.Call (.Name (Str.ofString "enumerate") p1) [.Name s1 p2] [] pos1) body [] pos :: rest) o := by
  have lp : ∀ (r : List (List UInt8)) (i : Nat) (ci ii : D), u.drop i = r → u.take i = v.take i → i ≤ u.length →
      ∃ cj ij, ForED w O k env x y body i (r.map D.bytes) (ctx ci ii u) (.next (ctx cj ij (comm u v))) := by
    intro r
    induction r with
    | nil =>
      intro i ci ii hd ht hi
      have e := comm_take i u v ht
      rw [hd] at e
      have : u.take i = u := List.take_of_length_le (by simpa using hd)
      rw [this] at e
      rw [show comm u v = u by rw [e]; simp [comm]]
      exact ⟨ci, ii, .done⟩
    | cons c r ih =>
      intro i ci ii hd ht hi
      have hlt : i < u.length := by
        rcases Nat.lt_or_ge i u.length with h | h
        · exact h
        · rw [List.drop_of_length_le h] at hd; cases hd
      have hlv := hpre i hlt ht
      have hu : u[i]? = some c := by
        have := congrArg List.head? hd
        rw [List.head?_drop] at this; simpa using this
      have hd' : u.drop (i + 1) = r := by
        have := congrArg List.tail hd
        rw [List.tail_drop] at this; simpa using this
      have hv : v[i]? = some (v[i]'hlv) := List.getElem?_eq_getElem hlv
      by_cases hc : c = v[i]'hlv
      · have ht' : u.take (i + 1) = v.take (i + 1) := by
          rw [List.take_add_one, List.take_add_one, ht, hu, hv, hc]
        obtain ⟨cj, ij, D⟩ := ih (i + 1) (.bytes c) (.int (i : Int)) hd' ht' hlt
        exact ⟨cj, ij, .step (hx _ _ _) (hy _ _ _) (heq i c hu (by rw [hv, hc])) D⟩
      · refine ⟨.bytes c, .int (i : Int), ?_⟩
        have e := comm_take i u v ht
        rw [hd, List.drop_eq_getElem_cons hlv] at e
        have e2 : comm u v = u.take i := by rw [e]; simp [comm, hc]
        rw [e2]
        exact .brk (hx _ _ _) (hy _ _ _) (hne i c _ hu hv hc)
  obtain ⟨cj, ij, D⟩ := lp u 0 .undef .undef rfl (by simp) (by omega)
  exact Exs.cons (Ex.forEnum (EnumOf.name at' h1 he1 hp1) D hs) (go cj ij)
end
end Mine
end

section
open PySem PySem.W PyProof.Rows PySem.Calls
set_option maxRecDepth 100000
namespace Mine

/-! ## data up to the slots of objects -/
mutual
theorem Rep.upto {N : Addr → Prop} {h h' : Heap} (k : h.UpToSlots h') : ∀ (d : D) (v : Value), Rep N h d v → Rep N h' d v
  | .undef, _, x => by simp [Rep] at x
  | .val _, _, x => by simpa [Rep] using x
  | .int _, _, x => by simpa [Rep] using x
  | .bytes _, _, x => by simpa [Rep] using x
  | .list ds, v, x => by
    simp only [Rep] at x ⊢
    obtain ⟨a, vs, e, na, ⟨o, ho, hc, n, hd⟩, r⟩ := x
    obtain ⟨sl, hs⟩ := k a o ho fun ws q => by rw [hd] at q; cases q
    exact ⟨a, vs, e, na, ⟨_, hs, hc, n, hd⟩, Reps.upto k ds vs r⟩
  | .tuple ds, v, x => by
    simp only [Rep] at x ⊢
    obtain ⟨a, vs, e, na, ⟨o, ho, hc, n, hd⟩, r⟩ := x
    obtain ⟨sl, hs⟩ := k a o ho fun ws q => by rw [hd] at q; cases q
    exact ⟨a, vs, e, na, ⟨_, hs, hc, n, hd⟩, Reps.upto k ds vs r⟩
  | .own b ds, v, x => by simp [Rep] at x
theorem Reps.upto {N : Addr → Prop} {h h' : Heap} (k : h.UpToSlots h') : ∀ (ds : List D) (vs : List Value), Reps N h ds vs → Reps N h' ds vs
  | [], _, x => by simpa [Reps] using x
  | d :: ds, vs, x => by
    simp only [Reps] at x ⊢
    obtain ⟨v, r, e, x1, x2⟩ := x
    exact ⟨v, r, e, Rep.upto k d v x1, Reps.upto k ds r x2⟩
end

def D.notOwn : D → Bool
  | .own _ _ => false
  | _ => true

theorem cell_upto {h h' : Heap} {c : Addr} {ov : Option Value} (k : h.UpToSlots h') (i : h.IsCell c ov) : h'.IsCell c ov := by
  obtain ⟨o, ho, hd⟩ := i
  obtain ⟨sl, hs⟩ := k c o ho fun ws q => by rw [hd] at q; cases q
  exact ⟨_, hs, hd⟩
theorem Bnd.upto {env h h' x v} (B : Bnd env h x v) (k : h.UpToSlots h') : Bnd env h' x v := by
  rcases B with ⟨a, m, n, e⟩ | ⟨a, c, l, i⟩
  · exact .inl ⟨a, m, k.ns n, e⟩
  · exact .inr ⟨a, c, l, cell_upto k i⟩

section
variable {w : World} {O : Addr → Prop} {k : Nat} {env : Env} {ρ : Ctx}
theorem St.upto {h₀ base h h' : Heap} {N : Addr → Prop} (S : St h₀ N O env h ρ) (k : h.UpToSlots h') (hb : base.StaysIn h') (hb0 : base.StaysIn h₀) (G : GH base) (hN : ∀ b, ¬ N b) (hown : ρ.all (fun e => e.2.notOwn) = true) : St base N O env h' ρ where
  kind := S.kind
  globs := S.globs
  blts := S.blts
  gh0 := G
  base := fun b o e => ⟨hb b o e, (S.base b o (hb0 b o e)).2⟩
  al := fun b n => (hN b n).elim
  sub := S.sub
  ns := let ⟨m, n⟩ := S.ns; ⟨m, k.ns n⟩
  cells := fun x c e => let ⟨ov, i⟩ := S.cells x c e; ⟨ov, cell_upto k i⟩
  apart := S.apart
  nodup := S.nodup
  dbg := S.dbg
  ents := fun e he => by
    obtain ⟨a, b⟩ := S.ents e he
    refine ⟨a, ?_⟩
    have no := List.all_eq_true.mp hown e he
    revert b no
    generalize e.2 = d
    intro b no
    cases b with
    | undef => exact .undef
    | own => cases no
    | rep B r => exact .rep (B.upto k) (r.upto k)

/-- one statement, at the tree -/
theorem stepW {st : Stmt} {rest : List Stmt} {ρ' : Ctx} {h₀ : Heap} {N : Addr → Prop} {A : Around} {s : Shared} {Q : Flow → Shared → Prop} {E : Value → Shared → Prop} (x : Ex w O k env ρ st (.next ρ')) (R : Room k A) (S : St h₀ N O env s.heap ρ)
    (h : ∀ s', St h₀ N O env s'.heap ρ' → Moves (WO O env) s s' → wpAny (model PG w) A (execs rest env) Q E s') : wpAny (model PG w) A (execs (st :: rest) env) Q E s :=
  wpAny_execs_cons (wpAny_mono (x h₀ N A s E R S) (fun f s' h' => by
    obtain ⟨⟨rfl, S'⟩, M⟩ := h'
    exact h s' S' M) fun _ _ x => x)
end

/-! ## contracts that may touch the slots of the frames below -/
def KeepsU (base : Heap) (s s' : Shared) : Prop := ∃ h' tk, s' = { s with heap := h', toks := tk } ∧ s.heap.UpToSlots h' ∧ base.StaysIn h'
abbrev noN : Addr → Prop := fun _ => False
def FnU (w : World) (k : Nat) (f : FnRec) (ds : List D) (d : D) : Prop :=
  ∀ (A : Around) (s : Shared) (E : Value → Shared → Prop) (a : Addr) (vs : List Value) (mg : Str → Option Value) (base : Heap) (outer : List Env), Room k A → Below A base outer s.heap → GH base → s.heap.Ns mainGlobals mg → FnIs mg s.heap f a → Reps noN s.heap ds vs →
    wpAny (model PG w) A (call (.ref a) vs) (fun v s' => Rep noN s'.heap d v ∧ KeepsU base s s') E s
theorem Fn.toU {w k f ds d} (F : Fn w k f ds d) : FnU w k f ds d := fun A s E a vs mg base outer R K G n i r =>
  wpAny_mono (F noN A s E a vs mg R (G.keeps K.stays) (fun _ h => h.elim) n i r) (fun v s' h => ⟨h.1, let ⟨h', tk, e, q⟩ := h.2; ⟨h', tk, e, Heap.UpToSlots.of_keeps q, fun b o e => q b o (K.stays b o e)⟩⟩) fun _ _ x => x
/-- a def that raises a ValueError -/
def FnR (w : World) (k : Nat) (f : FnRec) (ds : List D) : Prop :=
  ∀ (A : Around) (s : Shared) (Q : Value → Shared → Prop) (E : Value → Shared → Prop) (a : Addr) (vs : List Value) (mg : Str → Option Value) (base : Heap) (outer : List Env), Room k A → Below A base outer s.heap → GH base → s.heap.Ns mainGlobals mg → FnIs mg s.heap f a → Reps noN s.heap ds vs →
    (∀ e a0 h' tk, Heap.FlyingW base outer e (.type "ValueError") a0 h' → s.heap.UpToSlots h' → E (.ref e) { s with heap := h', toks := tk }) →
    wpAny (model PG w) A (call (.ref a) vs) Q E s

/-- entering a def: its frame -/
theorem enter {w : World} {k : Nat} {f : FnRec} {ds : List D} {A : Around} {s : Shared} {Q : Value → Shared → Prop} {E : Value → Shared → Prop} {a : Addr} {vs : List Value} {mg : Str → Option Value} {base : Heap} {outer : List Env} (ps ls : List Str)
    (R : Room (k + 1) A) (K : Below A base outer s.heap) (G : GH base) (I : FnIs mg s.heap f a) (r : Reps noN s.heap ds vs)
    (hb : ∀ pm cd doc vs, vs.length = ds.length → bindArgs (docDef f.name f.params f.body f.scope pm cd doc) ⟨vs, []⟩ = pure (ps.zip vs))
    (hlen : ps.length = ds.length)
    (hok : (ps ++ ls).all (fun x => NameOk f.scope x && !(x == ("__debug__" : Str)) && !(x == ("__classdict__" : Str))) = true)
    (hnd : (ps ++ ls).Nodup)
    (body : ∀ cd s₁, (∃ h' tk, s₁ = { s with heap := h', toks := tk }) → Room k (A.deeper (fnEnv f s.heap.objs.size a cd)) → St s.heap noN noN (fnEnv f s.heap.objs.size a cd) s₁.heap (ps.zip ds ++ ls.map fun x => (x, .undef)) →
      (A.deeper (fnEnv f s.heap.objs.size a cd)).frames = some (fnEnv f s.heap.objs.size a cd :: outer) →
      wpAny (model PG w) (A.deeper (fnEnv f s.heap.objs.size a cd)) (execs f.body (fnEnv f s.heap.objs.size a cd))
        (fun fl s' => match fl with | .ret v => Q v s' | _ => Q .none s')
        (fun e s' => wpAny (model PG w) (A.deeper (fnEnv f s.heap.objs.size a cd)) (leaving (fnEnv f s.heap.objs.size a cd) e) (fun _ s'' => E e s'') (fun e' s'' => E e' s'') s') s₁)
    (hco : f.scope.isCoroutine = false := by rfl) (hgen : f.scope.isGenerator = false := by rfl) (hk : f.scope.kind = .function := by rfl) :
    wpAny (model PG w) A (call (.ref a) vs) Q E s := by
  obtain ⟨o, pm, c, doc, h1, h2, h3, h4⟩ := I
  have hok' : ∀ x ∈ ps ++ ls, NameOk f.scope x = true ∧ (x == ("__debug__" : Str)) = false ∧ (x == ("__classdict__" : Str)) = false := fun x hx => by
    have := List.all_eq_true.mp hok x hx
    simp only [Bool.and_eq_true, Bool.not_eq_true'] at this
    exact ⟨this.1.1, this.1.2, this.2⟩
  have hvl : vs.length = ds.length := r.length
  have hnd1 : ps.Nodup := (List.nodup_append.mp hnd).1
  have hkeys : ∀ {α : Type} (xs : List α), ps.length = xs.length → (ps.zip xs).map (·.1) = ps := fun xs h => by
    rw [List.map_fst_zip]; omega
  obtain ⟨mg', mb', G'⟩ := G.keeps K.stays
  refine wpAny_call (call_cells R.depth h2 h3 G'.nolimit h4 (hb pm c doc vs hvl) (fun x hx => ?_) (fun h₁ tk F X => ?_) hco hgen hk)
  · have hx' : x.1 ∈ ps := by
      have := List.mem_map_of_mem (f := (·.1)) hx
      rwa [hkeys vs (by omega)] at this
    have := (hok' x.1 (List.mem_append_left _ hx')).1
    unfold NameOk at this
    simp only [Bool.or_eq_true, Bool.and_eq_true, beq_iff_eq] at this
    rcases this with h | ⟨h5, h6⟩
    · exact .inl h
    · exact .inr ⟨h5, by rw [cellsFrom_some _ _ 0 x.1 [] [] rfl]; exact h6⟩
  · have S : St s.heap noN noN (fnEnv f s.heap.objs.size a c) h₁ (ps.zip ds ++ ls.map fun x => (x, .undef)) := by
      refine ⟨hk, rfl, rfl, ⟨mg', mb', G'⟩, fun b o e => ⟨F.keep b o e, ?_⟩, fun _ h => h.elim, fun _ h => h.elim, ⟨_, F.ns⟩, fun x c hc => ⟨_, X.cell x c hc⟩, fun x y c hx hy => ?_, ?_, fun e he => ?_, fun e he => ?_⟩
      · rintro (h | h)
        · rcases h with h | ⟨x, h⟩
          · subst h; exact Nat.lt_irrefl _ (Heap.lt_size e)
          · exact Nat.lt_asymm (Heap.lt_size e) (X.above x b (mem_of_lookup h))
        · exact h
      · exact name_of_addr X.apart (mem_of_lookup hx) (mem_of_lookup hy)
      · rw [List.map_append, hkeys ds hlen, List.map_map]
        have : ((fun x : Str × D => x.1) ∘ fun x => (x, D.undef)) = id := rfl
        rw [this, List.map_id]; exact hnd
      · have : e.1 ∈ ps ++ ls := by
          rcases List.mem_append.mp he with h | h
          · exact List.mem_append_left _ (by have := List.mem_map_of_mem (f := (·.1)) h; rwa [hkeys ds hlen] at this)
          · obtain ⟨y, hy, rfl⟩ := List.mem_map.mp h; exact List.mem_append_right _ hy
        exact (hok' _ this).2
      · rcases List.mem_append.mp he with h | h
        · obtain ⟨x, d'⟩ := e
          have hx' : x ∈ ps := by have := List.mem_map_of_mem (f := (·.1)) h; rwa [hkeys ds hlen] at this
          have ok := (hok' x (List.mem_append_left _ hx')).1
          refine ⟨NameOk.slot ok, ?_⟩
          obtain ⟨v, hv, rv⟩ := zip_get r h
          have rv' : Rep noN h₁ d' v := rv.keeps F.keep
          have nd' : ((ps.zip vs).map (·.1)).Nodup := by rw [hkeys vs (by omega)]; exact hnd1
          refine .rep (v := v) ?_ rv'
          have ok2 := NameOk.slot (f := f) (L := s.heap.objs.size) (a := a) (cd := c) ok
          rcases ok2 with hl | ⟨hc, cc, hcc⟩
          · exact .inl ⟨hl, _, F.ns, bindL_get _ _ x v nd' hv hl⟩
          · refine .inr ⟨hc, cc, hcc, ?_⟩
            have := X.cell x cc hcc
            rcases hc with hc | hc
            · have e2 : bindC (envOfC f.name f.scope s.heap.objs.size a c).kindOf (ps.zip vs) (fun _ => none) x = some v := bindC_get _ _ x v nd' hv hc
              rw [e2] at this; exact this
            · exfalso
              unfold NameOk at ok
              simp only [Bool.or_eq_true, Bool.and_eq_true, beq_iff_eq] at ok
              have hc' : f.scope.names.lookup x = some .free := hc
              rcases ok with ok | ⟨ok, _⟩ <;> rw [hc'] at ok <;> cases ok
        · obtain ⟨y, hy, rfl⟩ := List.mem_map.mp h
          exact ⟨NameOk.slot (hok' y (List.mem_append_right _ hy)).1, .undef⟩
    refine wpAny_mono (body c _ ⟨h₁, tk, rfl⟩ R.deeper S (Around.frames_deeper K.stack)) (fun fl s' h => ?_) fun _ _ x => x
    cases fl <;> exact h

/-- the frames at a heap of the frame's -/
theorem St.frames {h₀ base h : Heap} {N O : Addr → Prop} {f : FnRec} {L a : Addr} {cd : Value} {ρ : Ctx} {outer : List Env} (S : St h₀ N O (fnEnv f L a cd) h ρ) (hb : base.StaysIn h₀) (K : h₀.FunFrames base outer) (hL : base.get? L = none) : h.FunFrames base (fnEnv f L a cd :: outer) := by
  obtain ⟨m, o, es, ep, ho, hd, _⟩ := S.ns
  refine ⟨by rw [S.kind]; decide, ⟨L, o, rfl, hL, ho, fun vs q => by rw [hd] at q; cases q⟩, K.of_keeps fun b o e _ => ⟨o, (S.base b o e).1, rfl⟩⟩
theorem stays_of {h₀ base h : Heap} {N O : Addr → Prop} {env : Env} {ρ : Ctx} (S : St h₀ N O env h ρ) (hb : base.StaysIn h₀) : base.StaysIn h := fun b o e => (S.base b o (hb b o e)).1
end Mine
end

section
open PySem PySem.W PyProof.Rows PySem.Calls
set_option maxRecDepth 100000
set_option maxHeartbeats 1000000
namespace Mine

section
variable {prog : Program} {w : World} {A : Around} {E : Value → Shared → Prop} {s : Shared}

/-- an exception in the air, raised with none before it -/
def Air (base : Heap) (l : List Env) (e : Addr) (fl : Value) (h : Heap) : Prop :=
  base.StaysIn h ∧ base.get? e = none ∧ h.FunFrames base l ∧ ∃ oe vs T oT ts, h.get? e = some oe ∧ oe.cls = .type "ValueError" ∧ oe.data = .fields vs ∧ vs[1]? = some (.ref T) ∧ vs[2]? = some .none ∧ base.get? T = none ∧ T ≠ e ∧ h.get? T = some oT ∧ oT.data = .fields ts ∧ ts[3]? = some fl

theorem note_first {base : Heap} {env : Env} {outer : List Env} {L e : Addr} {oe : Obj} {vs : Array Value} {Q : Unit → Shared → Prop} (hfr : A.frames = some (env :: outer)) (hl : s.heap.FunFrames base (env :: outer)) (hf : env.frame = some L)
    (hb : base.StaysIn s.heap) (hen : base.get? e = none) (he : s.heap.get? e = some oe) (hc : oe.cls = .type "ValueError") (hd : oe.data = .fields vs) (h1 : vs[1]? = some .none) (h2 : vs[2]? = some .none)
    (hQ : ∀ h', Air base (env :: outer) e (rawInt L) h' → s.heap.UpToSlots h' → Q () { s with heap := h' }) : wpAny (model prog w) A (noteFrame (.ref e) env) Q E s := by
  have hsz : 1 < vs.size := (Array.getElem?_eq_some_iff.mp h1).1
  have hene : e ∉ (env :: outer).filterMap (·.frame) := fun hm => by
    obtain ⟨_, o, ho, hnf⟩ := hl.mem hm
    rw [he] at ho; cases ho; exact hnf vs hd
  unfold noteFrame
  simp only [hf]
  refine wpAny_bind (wpAny_field he hd h1 ?_)
  rw [if_neg (by decide)]
  refine wpAny_bind (wpAny_frameOf_fun hfr hl hf fun g hg => ?_)
  refine wpAny_bind (wpAny_entryPlaceOf fun pl hpl => ?_)
  unfold EntryCells.newEntry newFields
  refine wpAny_bind (wpAny_newObj_type ?_ (hpl.sizeOk5 _ _ _ _ _))
  have he1 : g.get? e = some oe := (hg.2.1 e hene).trans he
  have hb1 : base.StaysIn g := fun b o q => (hg.2.1 b fun hm => by rw [(hl.mem hm).1] at q; cases q).trans (hb b o q)
  generalize hto : ({ cls := .type "traceback", data := .fields ([Value.none, .ref L, .none, rawInt L, .none] ++ (if pl.isEmpty then List.replicate 6 Value.none else pl)).toArray } : Obj) = ot
  have he2 : (g.push ot).get? e = some oe := Heap.get?_push_of_some _ he1
  refine wpAny_setField he2 hd hsz ?_
  have hTe : g.objs.size ≠ e := Nat.ne_of_gt (Heap.lt_size he1)
  have keep : ∀ b o, b ≠ e → g.get? b = some o → ((g.push ot).update e (Obj.mapFields (·.setIfInBounds 1 (.ref g.objs.size)))).get? b = some o := fun b o hbe q => by
    rw [Heap.get?_update_other _ _ (Ne.symm hbe)]; exact Heap.get?_push_of_some _ q
  have norec : ∀ b o, s.heap.get? b = some o → (∀ ws, o.data ≠ .fields ws) → b ≠ e := fun b o q hn x => by
    rw [x, he] at q; cases q; exact hn vs hd
  have hd3 := Obj.data_mapFields hd (·.setIfInBounds 1 (Value.ref g.objs.size))
  refine hQ _ ⟨fun b o q => keep b o (fun x => by rw [x, hen] at q; cases q) (hb1 b o q), hen, hl.of_keeps fun b o q hn => ?_, ?_⟩ fun b o q hn => ?_
  · obtain ⟨sl, hs⟩ := hg.2.2 b o q
    exact ⟨_, keep b _ (norec b o q hn) hs, rfl⟩
  · refine ⟨_, _, g.objs.size, ot, ([Value.none, .ref L, .none, rawInt L, .none] ++ (if pl.isEmpty then List.replicate 6 Value.none else pl)).toArray, Heap.get?_update_self _ he2 (Obj.isFreed_of_fields hd3), (Obj.cls_mapFields _ _).trans hc, hd3, by simp [hsz], by rw [Array.getElem?_setIfInBounds_ne (by decide)]; exact h2, hb1.fresh, hTe, ?_, by rw [← hto], by simp⟩
    rw [Heap.get?_update_other _ _ (Ne.symm hTe)]; exact Heap.get?_push_size g (by rw [← hto]; rfl)
  · obtain ⟨sl, hs⟩ := hg.2.2 b o q
    exact ⟨sl, keep b _ (norec b o q hn) hs⟩

theorem flight_off {base : Heap} {l : List Env} {e : Addr} {fl : Value} {Q : Unit → Shared → Prop} (x : Air base l e fl s.heap)
    (hQ : ∀ h', Air base l e .none h' → s.heap.UpToSlots h' → Q () { s with heap := h' }) : wpAny (model prog w) A (setFlight (.ref e) none) Q E s := by
  obtain ⟨hb, hen, hl, oe, vs, T, oT, ts, he, hc, hd, h1, h2, hT0, hTe, hT, hdT, h3⟩ := x
  have hsz : 3 < ts.size := (Array.getElem?_eq_some_iff.mp h3).1
  have oth : ∀ b, b ≠ T → (s.heap.update T (Obj.mapFields (·.setIfInBounds 3 .none))).get? b = s.heap.get? b := fun b q => Heap.get?_update_other _ _ (Ne.symm q)
  have norec : ∀ b o, s.heap.get? b = some o → (∀ ws, o.data ≠ .fields ws) → b ≠ T := fun b o q hn x => by
    rw [x, hT] at q; cases q; exact hn ts hdT
  have hd3 := Obj.data_mapFields hdT (·.setIfInBounds 3 Value.none)
  refine wpAny_setFlight_none he hd h1 hT hdT hsz (hQ _ ⟨fun b o q => (oth b fun x => by rw [x, hT0] at q; cases q).trans (hb b o q), hen, hl.of_keeps fun b o q hn => ⟨o, (oth b (norec b o q hn)).trans q, rfl⟩, ?_⟩ fun b o q hn => ⟨o.slots, (oth b (norec b o q hn)).trans q⟩)
  exact ⟨oe, vs, T, _, _, (oth e (Ne.symm hTe)).trans he, hc, hd, h1, h2, hT0, hTe, Heap.get?_update_self _ hT (Obj.isFreed_of_fields hd3), hd3, by simp [hsz]⟩

theorem entry_unchain : entryFor table "proto.unchain" = some Builtin.«proto.unchain» := entryFor_of_tree (by kernel_rfl)
/-- raising behind another one, whose context is none -/
theorem raise_behind {α : Type} {e1 e2 : Addr} {o1 o2 : Obj} {v1 v2 : Array Value} {Q : α → Shared → Prop} (hh : A.handled = some (.ref e1)) (hne : e1 ≠ e2) (he1 : s.heap.get? e1 = some o1) (hd1 : o1.data = .fields v1) (hc1 : v1[2]? = some .none)
    (he2 : s.heap.get? e2 = some o2) (hd2 : o2.data = .fields v2) (hsz : 2 < v2.size) (h : E (.ref e2) { s with heap := s.heap.update e2 (Obj.mapFields (·.setIfInBounds 2 (.ref e1))) }) : wpAny (model prog w) A (raiseNew (.ref e2) : Sem α) Q E s := by
  unfold raiseNew
  refine wpAny_bind (wpAny_handled ?_)
  rw [hh]
  have hn : (Value.ref e1 != Value.ref e2) = true := by simpa using hne
  simp only [hn, if_true]
  refine wpAny_bind (wpAny_holding (wpAny_runValue (codeAny_builtin entry_unchain ?_)))
  unfold Builtin.«proto.unchain»
  dsimp only
  refine wpAny_bind (wpAny_field he1 hd1 hc1 ?_)
  rw [if_pos (by decide)]
  refine wpAny_pure ?_
  show wpAny _ A (setField (.ref e2) 2 (.ref e1) >>= fun _ => throw (.ref e2)) Q E s
  exact wpAny_bind (wpAny_setField he2 hd2 hsz (wpAny_throw h))

/-- `raise ValueError(..) from None` while e1 is handled -/
theorem raise_in {env : Env} {e1 : Addr} {x : Str} {np cpos pos cp p2 : Pos} {msg : Str} {kk k2} {Q : Flow → Shared → Prop} (hh : A.handled = some (.ref e1)) (hm : msg.length ≤ sizeLine)
    (he1 : ∃ oe vs, s.heap.get? e1 = some oe ∧ oe.data = .fields vs ∧ vs[2]? = some .none)
    (hname : ∀ (Q : Value → Shared → Prop) (E : Value → Shared → Prop), Q (.type "ValueError") s → wpAny (model prog w) A (eval (.Name x np) env) Q E s)
    (h : ∀ h' tk e2 oe vs a0, (∀ b o, s.heap.get? b = some o → h'.get? b = some o) → s.heap.get? e2 = none → h'.get? e2 = some oe → oe.cls = .type "ValueError" → oe.data = .fields vs → vs[0]? = some a0 → vs[1]? = some .none → E (.ref e2) { s with heap := h', toks := tk })
    (he : starEach [.Constant (.str msg) kk cp] env = (false, eval (.Constant (.str msg) kk cp) env) :: starEach [] env := by rfl) (hplain : (backTo cpos (starEach [.Constant (.str msg) kk cp] env)).any (·.1) = false := by rfl) :
    wpAny (model prog w) A (exec (.Raise (some (.Call (.Name x np) [.Constant (.str msg) kk cp] [] cpos)) (some (.Constant .none k2 p2)) pos) env) Q E s := by
  have hsub := PySem.F.excRaise_ValueError.isExc
  have hmeta := PySem.F.excRaise_ValueError.plainMeta
  rw [arm_exec_Raise]
  refine wpAny_bind (wpAny_standAt ?_)
  unfold raiseStmt
  simp only [evalOpt, Option.map]
  refine wpAny_bind (wpAny_bind (wpAny_Call_ofName (hname _ _ ?_)))
  refine callWith_excType hplain ?_
  rw [he]
  refine Calls.evalArgs_plain (x := eval (.Constant (.str msg) kk cp) env) (rest := backTo cpos (starEach [] env)) ?_
  refine args_cons (e := .Constant (.str msg) kk cp) (rest := []) (wpAny_Constant_str (args_nil ?_)) he
  obtain ⟨hp, g, d, tk, os⟩ := s
  refine wpAny_call_exc PySem.F.excCall_ValueError (rest := [_]) fun h1 e2 hm2 => ?_
  refine wpAny_bind (wpAny_standAt (wpAny_pure ?_))
  refine wpAny_bind (wpAny_holding (wpAny_bind ?_))
  refine wpAny_pure (wpAny_bind (wpAny_standAt (wpAny_pure ?_)))
  refine wpAny_bind (wpAny_pure ?_)
  refine wpAny_bind (wpAny_holding ?_)
  obtain ⟨t, ht, htn, htt⟩ := hm2.there
  have hb2 := hm2.new
  have hk := hm2.keeps
  dsimp only at hb2 hk he1 ht htt ⊢
  have hTy : ∀ (d' : Drawn) (tk' : Nat), (⟨h1, g, d', tk', os⟩ : Shared).TypeIs (.ref e2) "ValueError" := fun _ _ => ⟨_, ht, rfl⟩
  have isT : ∀ (h' : Heap) (tk' : Nat) (Q : Bool → Shared → Prop) (ob : Obj) (vs : Array Value), h'.get? e2 = some ob → ob.data = .fields vs → Q false (⟨h', g, d, tk', os⟩ : Shared) → wpAny (model prog w) A (isType (.ref e2)) Q E ⟨h', g, d, tk', os⟩ := fun h' tk' Q ob vs ho hd hq => by
    unfold isType
    refine wpAny_bind (wpAny_loadPart ho ?_)
    rw [hd]
    exact wpAny_pure hq
  unfold excFromValue isExcClass
  refine wpAny_bind (wpAny_bind (isT _ _ _ _ _ ht rfl ?_))
  simp only [Bool.false_eq_true, if_false]
  refine wpAny_pure ?_
  simp only [Bool.false_eq_true, if_false]
  refine wpAny_bind (wpAny_isInstance (hTy _ _) hsub ?_)
  simp only [if_true]
  refine wpAny_pure ?_
  rw [if_pos (by decide)]
  refine wpAny_bind (wpAny_pure ?_)
  refine wpAny_bind (wpAny_setField ht rfl (by simp) ?_)
  have ht2 := Heap.get?_update_self (Obj.mapFields (·.setIfInBounds 3 Value.none)) ht rfl
  refine wpAny_bind (wpAny_setField ht2 rfl (by simp) ?_)
  have ht3 := Heap.get?_update_self (Obj.mapFields (·.setIfInBounds 4 (Value.bool true))) ht2 rfl
  refine wpAny_bind (isT _ _ _ _ _ ht3 rfl ?_)
  simp only [Bool.false_eq_true, if_false]
  have hTy3 : ∀ (tk' : Nat), (⟨(h1.update e2 (Obj.mapFields (·.setIfInBounds 3 Value.none))).update e2 (Obj.mapFields (·.setIfInBounds 4 (Value.bool true))), g, d, tk', os⟩ : Shared).TypeIs (.ref e2) "ValueError" := fun _ => ⟨_, ht3, rfl⟩
  unfold raisedInstance
  refine wpAny_bind (wpAny_bind (wpAny_typeOf (hTy3 _) ?_))
  refine wpAny_bind (wpAny_pure ?_)
  rw [if_pos hmeta]
  refine wpAny_pure ?_
  have hf1 : (Obj.mapFields (·.setIfInBounds 4 (Value.bool true)) (Obj.mapFields (·.setIfInBounds 3 Value.none) { cls := Value.type "ValueError", data := .fields #[Value.ref t, .none, .none, .none, .bool false, .none] })).data = .fields #[Value.ref t, .none, .none, .none, .bool true, .none] := rfl
  unfold setFlight
  refine wpAny_bind (wpAny_bind (wpAny_field ht3 hf1 (i := 1) rfl ?_))
  rw [if_neg (by simp)]
  refine wpAny_pure ?_
  obtain ⟨o1, v1, x1, x2, x3⟩ := he1
  have hne : e1 ≠ e2 := fun q => by rw [q, hb2] at x1; cases x1
  have x1' : ((h1.update e2 (Obj.mapFields (·.setIfInBounds 3 Value.none))).update e2 (Obj.mapFields (·.setIfInBounds 4 (Value.bool true)))).get? e1 = some o1 := by
    rw [Heap.get?_update_other _ _ (Ne.symm hne), Heap.get?_update_other _ _ (Ne.symm hne)]; exact hk _ _ x1
  have ht4 := Heap.get?_update_self (Obj.mapFields (·.setIfInBounds 2 (Value.ref e1))) ht3 rfl
  refine raise_behind hh hne x1' x2 x3 ht3 hf1 (by simp) ?_
  refine h _ _ e2 _ #[Value.ref t, .none, .ref e1, .none, .bool true, .none] (.ref t) (fun b o q => ?_) hb2 ht4 rfl rfl rfl rfl
  have hbe : e2 ≠ b := fun q' => by rw [← q', hb2] at q; cases q
  rw [Heap.get?_update_other _ _ hbe, Heap.get?_update_other _ _ hbe, Heap.get?_update_other _ _ hbe]
  exact hk _ _ q
end
end Mine
end

section
open PySem PySem.W PyProof.Rows PySem.Calls
set_option maxRecDepth 100000
set_option maxHeartbeats 1000000
namespace Mine

theorem free_ValueError : Str.ofString "ValueError" ∈ freeNames := by decide +kernel
theorem free_TypeError : Str.ofString "TypeError" ∈ freeNames := by decide +kernel
theorem free_AttributeError : Str.ofString "AttributeError" ∈ freeNames := by decide +kernel
theorem boot_ValueError : bootBuiltins (Str.ofString "ValueError") = some (.type "ValueError") := by decide +kernel
theorem boot_TypeError : bootBuiltins (Str.ofString "TypeError") = some (.type "TypeError") := by decide +kernel
theorem boot_AttributeError : bootBuiltins (Str.ofString "AttributeError") = some (.type "AttributeError") := by decide +kernel
theorem exc_VE : isSubtype (.type "ValueError") (.type "BaseException") = pure true := by rw [isSubtype_type]; kernel_rfl
theorem exc_TE : isSubtype (.type "TypeError") (.type "BaseException") = pure true := by rw [isSubtype_type]; kernel_rfl
theorem exc_AE : isSubtype (.type "AttributeError") (.type "BaseException") = pure true := by rw [isSubtype_type]; kernel_rfl
theorem nt_VE : isSubtype (.type ((Manifest.find? "ValueError").elim "type" fun x => x.metatype)) (.type "tuple") = pure false := by rw [isSubtype_type]; kernel_rfl
theorem nt_TE : isSubtype (.type ((Manifest.find? "TypeError").elim "type" fun x => x.metatype)) (.type "tuple") = pure false := by rw [isSubtype_type]; kernel_rfl
theorem nt_AE : isSubtype (.type ((Manifest.find? "AttributeError").elim "type" fun x => x.metatype)) (.type "tuple") = pure false := by rw [isSubtype_type]; kernel_rfl
theorem sub_VE_VE : isSubtype (.type "ValueError") (.type "ValueError") = pure true := by rw [isSubtype_type]; kernel_rfl
theorem sub_VE_TE : isSubtype (.type "ValueError") (.type "TypeError") = pure false := by rw [isSubtype_type]; kernel_rfl
theorem sub_VE_AE : isSubtype (.type "ValueError") (.type "AttributeError") = pure false := by rw [isSubtype_type]; kernel_rfl

section
variable {w : World} {A : Around} {E : Value → Shared → Prop} {s : Shared} {env : Env}

structure EnvOk (env : Env) : Prop where
  kind : env.scope.kind = .function
  globs : env.globals = mainGlobals
  blts : env.builtins = builtinsNs

theorem bltNameG {x : Str} {pos : Pos} {v : Value} {Q : Value → Shared → Prop} (V : EnvOk env) (G : GH s.heap) (hx : env.kindOf x = some .globalImplicit) (hd : (x == ("__debug__" : Str)) = false) (hf : x ∈ freeNames) (hb : bootBuiltins x = some v) (h : Q v s) :
    wpAny (model PG w) A (eval (.Name x pos) env) Q E s := by
  obtain ⟨mg, mb, G⟩ := G
  obtain ⟨g1, g2⟩ := G.free x hf
  exact Name_function_global V.kind hx (loadGlobal_builtin (V.globs ▸ G.g) g1 (V.blts ▸ G.b) (g2.trans hb) h) hd

theorem flight_on {base : Heap} {l : List Env} {e L : Addr} {cls a0 fl : Value} {Q : Unit → Shared → Prop} (hb : base.StaysIn s.heap) (hen : base.get? e = none) (hl : s.heap.FunFrames base l) (x : s.heap.TracedAtW base e cls a0 fl)
    (hQ : ∀ h', Heap.HeldW base l e cls a0 L h' → s.heap.UpToSlots h' → Q () { s with heap := h' }) : wpAny (model PG w) A (setFlight (.ref e) (some L)) Q E s := by
  obtain ⟨oe, vs, T, oT, ts, he, hc, hd, h1, hT0, hTe, hT, hdT, h3⟩ := x
  have hsz : 3 < ts.size := (Array.getElem?_eq_some_iff.mp h3).1
  have oth : ∀ b, b ≠ T → (s.heap.update T (Obj.mapFields (·.setIfInBounds 3 (rawInt L)))).get? b = s.heap.get? b := fun b q => Heap.get?_update_other _ _ (Ne.symm q)
  have norec : ∀ b o, s.heap.get? b = some o → (∀ ws, o.data ≠ .fields ws) → b ≠ T := fun b o q hn x => by
    rw [x, hT] at q; cases q; exact hn ts hdT
  have hd3 := Obj.data_mapFields hdT (·.setIfInBounds 3 (rawInt L))
  unfold setFlight
  refine wpAny_bind (wpAny_field he hd h1 ?_)
  rw [if_pos (show (Value.ref T != Value.none) = true from by simp)]
  refine wpAny_setField hT hdT hsz (hQ _ ⟨fun b o q => (oth b fun x => by rw [x, hT0] at q; cases q).trans (hb b o q), hen, hl.of_keeps fun b o q hn => ⟨o, (oth b (norec b o q hn)).trans q, rfl⟩, ?_⟩ fun b o q hn => ⟨o.slots, (oth b (norec b o q hn)).trans q⟩)
  exact ⟨oe, vs, T, _, _, (oth e (Ne.symm hTe)).trans he, hc, hd, h1, hT0, hTe, Heap.get?_update_self _ hT (Obj.isFreed_of_fields hd3), hd3, by simp [hsz]⟩

/-- what is held of an exception that flies in this frame -/
def HeldE (base : Heap) (l : List Env) (L : Addr) (g : Heap) (s : Shared) (E : Value → Shared → Prop) : Prop :=
  ∀ e a0 h' tk, Heap.HeldW base l e (.type "ValueError") a0 L h' → g.UpToSlots h' → E (.ref e) { s with heap := h', toks := tk }

/-- a try whose body raises a ValueError at once; its handler raises another one -/
theorem try_again {base g : Heap} {outer : List Env} {L : Addr} {st : Stmt} {p1 np cpos cp p2 rpos hpos pos : Pos} {msg : Str} {kk k2} {Q : Flow → Shared → Prop} (V : EnvOk env) (hh : A.handled = none) (hfr : A.frames = some (env :: outer)) (hf : env.frame = some L)
    (hb : base.StaysIn s.heap) (hl : s.heap.FunFrames base (env :: outer)) (G : GH base)
    (hst : ∀ (Q' : Flow → Shared → Prop) (E' : Value → Shared → Prop), (∀ hm h' tk e, (∀ b o, s.heap.get? b = some o → hm.get? b = some o) → Heap.NewExc hm h' e "ValueError" → E' (.ref e) { s with heap := h', toks := tk }) → wpAny (model PG w) A (exec st env) Q' E' s)
    (hE : HeldE base (env :: outer) L g s E) (hg : ∀ b o, g.get? b = some o → s.heap.get? b = some o) (hm : msg.length ≤ sizeLine)
    (hx : env.kindOf (Str.ofString "ValueError") = some .globalImplicit := by with_unfolding_all rfl)
    (he : starEach [.Constant (.str msg) kk cp] env = (false, eval (.Constant (.str msg) kk cp) env) :: starEach [] env := by with_unfolding_all rfl) (hplain : (backTo cpos (starEach [.Constant (.str msg) kk cp] env)).any (·.1) = false := by with_unfolding_all rfl) :
    wpAny (model PG w) A (exec (.Try [st] [.ExceptHandler (some (.Name (Str.ofString "ValueError") p1)) none [.Raise (some (.Call (.Name (Str.ofString "ValueError") np) [.Constant (.str msg) kk cp] [] cpos)) (some (.Constant .none k2 p2)) rpos] hpos] [] [] pos) env) Q E s := by
  have hd : (Str.ofString "ValueError" == ("__debug__" : Str)) = false := by decide
  refine wpAny_Try_except (wpAny_execs_cons (hst _ _ fun hm0 h0 tk0 e1 k0 x1 => ?_))
  obtain ⟨ob, t, g1, g2, g3⟩ := x1.there
  have k1 : ∀ b o, s.heap.get? b = some o → h0.get? b = some o := fun b o q => x1.keeps b o (k0 b o q)
  have hb0 : base.StaysIn h0 := fun b o q => k1 b o (hb b o q)
  have hbm : base.StaysIn hm0 := fun b o q => k0 b o (hb b o q)
  have hen : base.get? e1 = none := by
    cases q : base.get? e1 with
    | none => rfl
    | some o => have := hbm _ _ q; rw [x1.new] at this; cases this
  have hl0 : h0.FunFrames base (env :: outer) := hl.of_keeps fun b o q _ => ⟨o, k1 b o q, rfl⟩
  refine note_first (s := { s with heap := h0, toks := tk0 }) hfr hl0 hf hb0 hen g1 g2 g3 rfl rfl fun h2 a2 u2 => ?_
  refine flight_off (s := { s with heap := h2, toks := tk0 }) a2 fun h3 a3 u3 => ?_
  refine wpAny_handleBy_builtin exc_VE nt_VE sub_VE_VE (bltNameG (s := { s with heap := h3, toks := tk0 }) V (G.keeps a3.1) hx hd free_ValueError boot_ValueError ⟨rfl, ?_, ?_⟩)
  · obtain ⟨_, _, _, oe, vs, T, oT, ts, he, hc, _⟩ := a3
    exact ⟨oe, he, hc⟩
  rw [if_pos rfl]
  refine flight_off (s := { s with heap := h3, toks := tk0 }) a3 fun h4 a4 u4 => ?_
  refine wpAny_execs_cons (raise_in (s := { s with heap := h4, toks := tk0 }) (e1 := e1) rfl hm ?_ (fun Q E hq => bltNameG (s := { s with heap := h4, toks := tk0 }) V (G.keeps a4.1) hx hd free_ValueError boot_ValueError hq) (fun h5 tk5 e2 oe vs a0 k5 n5 f5 c5 d5 v0 v1 => ?_) he hplain)
  · obtain ⟨_, _, _, oe, vs, T, oT, ts, he, hc, hd, h1, h2, _⟩ := a4
    exact ⟨oe, vs, he, hd, h2⟩
  have hb5 : base.StaysIn h5 := fun b o q => k5 b o (a4.1 b o q)
  have hl5 : h5.FunFrames base (env :: outer) := a4.2.2.1.of_keeps fun b o q _ => ⟨o, k5 b o q, rfl⟩
  have hen2 : base.get? e2 = none := by
    cases q : base.get? e2 with
    | none => rfl
    | some o => have := a4.1 _ _ q; rw [n5] at this; cases this
  show wpAny _ _ (noteFrame (.ref e2) env) _ _ _
  unfold noteFrame
  simp only [hf]
  refine wpAny_bind (wpAny_field f5 d5 v1 ?_)
  rw [if_neg (by decide)]
  refine wpAny_entryW (s := { s with heap := h5, toks := tk5 }) hfr hl5 hf f5 hb5 hen2 d5 (Array.getElem?_eq_some_iff.mp v1).1 v0 fun h6 n6 => ?_
  obtain ⟨b6, l6, t6, u6⟩ := n6
  unfold cameBackBy
  have t6' := t6
  obtain ⟨oe6, vs6, T6, oT6, ts6, he6, hc6, hd6, h16, _⟩ := t6'
  refine wpAny_bind (wpAny_field he6 hd6 h16 ?_)
  rw [if_neg (by simp)]
  rw [hf]
  refine flight_on (s := { s with heap := h6, toks := tk5 }) b6 hen2 l6 t6 fun h7 x7 u7 => ?_
  rw [c5] at x7
  exact hE e2 a0 h7 tk5 x7 ((Heap.UpToSlots.of_keeps fun b o q => k1 b o (hg b o q)).trans (u2.trans (u3.trans (u4.trans ((Heap.UpToSlots.of_keeps k5).trans (Heap.UpToSlots.trans u6 u7))))))

/-- a try whose handler does not meet the ValueError of its body -/
theorem try_pass {base g : Heap} {outer : List Env} {L : Addr} {body : List Stmt} {b₀ : Stmt} {suite : List Stmt} {q1 q2 tp hpos pos : Pos} {kk} {Q : Flow → Shared → Prop} (V : EnvOk env) (hfr : A.frames = some (env :: outer)) (hf : env.frame = some L) (G : GH base)
    (hbody : ∀ (Q' : Flow → Shared → Prop) (E' : Value → Shared → Prop), HeldE base (env :: outer) L g s E' → wpAny (model PG w) A (execs body env) Q' E' s)
    (hE : HeldE base (env :: outer) L g s E)
    (hx1 : env.kindOf (Str.ofString "TypeError") = some .globalImplicit := by with_unfolding_all rfl) (hx2 : env.kindOf (Str.ofString "AttributeError") = some .globalImplicit := by with_unfolding_all rfl)
    (he1 : starEach [.Name (Str.ofString "TypeError") q1, .Name (Str.ofString "AttributeError") q2] env = (false, eval (.Name (Str.ofString "TypeError") q1) env) :: starEach [.Name (Str.ofString "AttributeError") q2] env := by with_unfolding_all rfl)
    (he2 : starEach [.Name (Str.ofString "AttributeError") q2] env = (false, eval (.Name (Str.ofString "AttributeError") q2) env) :: starEach [] env := by with_unfolding_all rfl) :
    wpAny (model PG w) A (exec (.Try body [.ExceptHandler (some (.Tuple [.Name (Str.ofString "TypeError") q1, .Name (Str.ofString "AttributeError") q2] kk tp)) none (b₀ :: suite) hpos] [] [] pos) env) Q E s := by
  have hd1 : (Str.ofString "TypeError" == ("__debug__" : Str)) = false := by decide
  have hd2 : (Str.ofString "AttributeError" == ("__debug__" : Str)) = false := by decide
  refine wpAny_Try_except (hbody _ _ fun e a0 h1 tk1 x1 u1 => ?_)
  refine wpAny_noteFrame_againW (s := { s with heap := h1, toks := tk1 }) hf x1.2.2.2 ?_
  refine wpAny_landsW (s := { s with heap := h1, toks := tk1 }) x1 fun h2 x2 u2 => ?_
  refine wpAny_handleBy_tup2 exc_TE nt_TE exc_AE nt_AE sub_VE_TE sub_VE_AE ?_
  refine wpAny_Tuple ?_
  refine wpAny_items_cons (bltNameG (s := { s with heap := h2, toks := tk1 }) V (G.keeps x2.1) hx1 hd1 free_TypeError boot_TypeError ?_) he1
  refine wpAny_items_cons (bltNameG (s := { s with heap := h2, toks := tk1 }) V (G.keeps x2.1) hx2 hd2 free_AttributeError boot_AttributeError ?_) he2
  refine wpAny_items_nil ⟨by size_fits, ?_⟩
  have kp : ∀ b o, h2.get? b = some o → (h2.push { cls := .type "tuple", data := .seq [Value.type "TypeError", .type "AttributeError"].toArray }).get? b = some o := fun _ _ q => Heap.get?_push_of_some _ q
  obtain ⟨ob, o1, o2⟩ := x2.there
  refine ⟨_, rfl, ⟨_, Heap.get?_push_size h2 rfl, rfl, _, rfl⟩, ⟨ob, kp _ _ o1, o2⟩, ?_⟩
  simp only [Bool.or_false, Bool.false_eq_true, if_false]
  refine wpAny_handleBy_nil ?_
  obtain ⟨b2, n2, l2, t2⟩ := x2
  obtain ⟨oe, vs, T, oT, ts, he, hc, hd, h1', hT0, hTe, hT, hdT, h3⟩ := t2
  unfold PySem.passOn
  refine wpAny_bind (wpAny_field (kp _ _ he) hd h1' ?_)
  rw [if_neg (by simp)]
  rw [hf]
  refine wpAny_bind (flight_on (s := { s with heap := _, toks := tk1 }) (fun b o q => kp _ _ (b2 b o q)) n2 (l2.of_keeps fun b o q _ => ⟨o, kp _ _ q, rfl⟩) ⟨oe, vs, T, oT, ts, kp _ _ he, hc, hd, h1', hT0, hTe, kp _ _ hT, hdT, h3⟩ fun h3 x3 u3 => wpAny_throw ?_)
  exact hE e a0 h3 tk1 x3 (u1.trans (Heap.UpToSlots.trans u2 (Heap.UpToSlots.trans (Heap.UpToSlots.of_keeps kp) u3)))

/-- leaving a frame with it -/
theorem leave_held {base : Heap} {outer : List Env} {L e : Addr} {a0 : Value} {Q : Unit → Shared → Prop} (hf : env.frame = some L) (x : Heap.HeldW base (env :: outer) e (.type "ValueError") a0 L s.heap)
    (hQ : ∀ h', Heap.FlyingW base outer e (.type "ValueError") a0 h' → s.heap.UpToSlots h' → Q () { s with heap := h' }) : wpAny (model PG w) A (leaving env (.ref e)) Q E s := by
  unfold leaving
  refine wpAny_bind (wpAny_noteFrame_againW hf x.2.2.2 ?_)
  refine wpAny_landsW x fun h' y u => ?_
  obtain ⟨k1, k2, ⟨_, _, k3⟩, k4⟩ := y
  exact hQ h' ⟨k1, k2, k3, k4⟩ u

/-- a try whose body raises a ValueError in a def below; its handler answers a name -/
theorem try_answer {base h₀ : Heap} {N O : Addr → Prop} {ρ : Ctx} {outer : List Env} {L : Addr} {st : Stmt} {p1 rp np hpos pos : Pos} {x : Str} {d : D} {rest : List Stmt} {Q : Flow → Shared → Prop} (V : EnvOk env) (hh : A.handled = none) (hfr : A.frames = some (env :: outer)) (hf : env.frame = some L)
    (G : GH base) (hb0 : base.StaysIn h₀) (hN : ∀ b, ¬ N b) (hown : ρ.all (fun e => e.2.notOwn) = true) (S : St h₀ N O env s.heap ρ) (at' : At ρ x d) (hd : d.plain = true)
    (hst : ∀ (Q' : Flow → Shared → Prop) (E' : Value → Shared → Prop), (∀ e a0 h' tk, Heap.FlyingW base (env :: outer) e (.type "ValueError") a0 h' → s.heap.UpToSlots h' → E' (.ref e) { s with heap := h', toks := tk }) → wpAny (model PG w) A (exec st env) Q' E' s)
    (hQ : ∀ v h' tk, Rep N h' d v → s.heap.UpToSlots h' → base.StaysIn h' → Q (.ret v) { s with heap := h', toks := tk })
    (hx : env.kindOf (Str.ofString "ValueError") = some .globalImplicit := by with_unfolding_all rfl) :
    wpAny (model PG w) A (execs (.Try [st] [.ExceptHandler (some (.Name (Str.ofString "ValueError") p1)) none [.Return (some (.Name x np)) rp] hpos] [] [] pos :: rest) env) Q E s := by
  have hdb : (Str.ofString "ValueError" == ("__debug__" : Str)) = false := by decide
  refine wpAny_execs_cons (wpAny_Try_except (wpAny_execs_cons (hst _ _ fun e a0 h1 tk1 x1 u1 => ?_)))
  refine wpAny_looks_onW (s := { s with heap := h1, toks := tk1 }) hfr hf x1 fun h2 x2 u2 => ?_
  refine wpAny_landsW (s := { s with heap := h2, toks := tk1 }) x2 fun h3 x3 u3 => ?_
  refine wpAny_handleBy_builtin exc_VE nt_VE sub_VE_VE (bltNameG (s := { s with heap := h3, toks := tk1 }) V (G.keeps x3.1) hx hdb free_ValueError boot_ValueError ⟨rfl, x3.there, ?_⟩)
  rw [if_pos rfl]
  refine lands_againW (s := { s with heap := h3, toks := tk1 }) x3 fun h4 x4 u4 => ?_
  have u : s.heap.UpToSlots h4 := u1.trans (Heap.UpToSlots.trans u2 (Heap.UpToSlots.trans u3 u4))
  have S4 := S.upto u x4.1 hb0 G hN hown
  refine wpAny_execs_cons (wpAny_Return_some (wpAny_Name (wpAny_mono (load (s := { s with heap := h4, toks := tk1 }) S4 at' hd) (fun v s5 h5 => ?_) fun _ _ x => x) (S4.dbg _ at'.mem).1))
  obtain ⟨r5, h5, tk5, rfl, k5⟩ := h5
  exact hQ v h5 tk5 r5 (u.trans (Heap.UpToSlots.of_keeps k5)) (fun b o q => k5 b o (x4.1 b o q))
end
end Mine
end

section
open PySem PySem.W PyProof.Rows PySem.Calls
set_option maxRecDepth 100000
set_option maxHeartbeats 2000000
namespace Mine
section
variable {w : World} {O : Addr → Prop} {k : Nat} {env : Env} {ρ : Ctx}

/-- `x, = {e for y in paths}` over two that give two bools -/
theorem unpackSetR {x px kk tp pos} {elt iter : Expr} {y : Str} {py : Pos} {scope : Scope} {pos' : Pos} {cl : List (Str × Addr)} {ρf : Ctx} {dv d₁ d₂ : D} {h₀ : Heap} {N : Addr → Prop} {A : Around} {s : Shared} (F : D → Bool) (b : Bool) (h1 : F d₁ = b) (h2 : F d₂ = !b)
    (ev : Ev w k env ρ iter dv) (it : Its w k dv [d₁, d₂]) (FO : FreeOk env scope cl y ρ ρf)
    (elts : ∀ d ∈ [d₁, d₂], ∀ C, Ev w k (compEnvC scope cl C env) ((y, d) :: ρf) elt (.bool (F d))) (R : Room k A) (S : St h₀ N O env s.heap ρ) (Q : Flow → Shared → Prop) (E : Value → Shared → Prop)
    (hE : ∀ hm h' tk e, (∀ b o, s.heap.get? b = some o → hm.get? b = some o) → Heap.NewExc hm h' e "ValueError" → E (.ref e) { s with heap := h', toks := tk })
    (hs : swapsWithSole [.Tuple [.Name x px] kk tp] (.SetComp elt [⟨.Name y py, iter, [], 0⟩] scope pos') pos.line env = pure false := by with_unfolding_all rfl)
    (hw : swappedStores [.Tuple [.Name x px] kk tp] (.SetComp elt [⟨.Name y py, iter, [], 0⟩] scope pos') env = pure none := by with_unfolding_all rfl)
    (hcell : ∀ y ∈ scope.names, y.2 ≠ .cell := by decide) (hkind : scope.kind = .function := by with_unfolding_all rfl)
    (hnames : ∀ y ∈ scope.names, y.2 = .local → scope.names.lookup y.1 = some .local := by decide) (hx : scope.names.lookup y = some .local := by with_unfolding_all rfl)
    (hsI : ∀ x, foldedSetIterable iter env x = pure x := by intro _; with_unfolding_all rfl) :
    wpAny (model PG w) A (exec (.Assign [.Tuple [.Name x px] kk tp] (.SetComp elt [⟨.Name y py, iter, [], 0⟩] scope pos') pos) env) Q E s := by
  refine Assign_Tuple (wpAny_mono (setcomp F (by simp) ev it FO elts hcell hkind hnames hx hsI R S) (fun v s₁ h₁ => ?_) fun _ _ x => x) hs hw
  obtain ⟨a, rfl, hfresh, hS, K⟩ := h₁
  have hB : ([d₁, d₂].map F).foldl addB [] = [b, !b] := by
    simp only [List.map, List.foldl, h1, h2]
    cases b <;> rfl
  rw [hB] at hS
  rw [assign_Tuple]
  refine wpAny_bind (wpAny_standAt ?_)
  show wpAny _ A (unpack (.ref a) [(false, PySem.assign (.Name x px) env)]) _ E _
  unfold unpack
  refine wpAny_bind (wpAny_holding (unpack_two hS R.2.2 fun hm h' tk e xe ne => ?_))
  obtain ⟨h1', t1, rfl, k1⟩ := K
  exact hE hm h' tk e (fun b o q => xe b o (Nat.ne_of_lt (Heap.lt_size (k1 b o q))) (k1 b o q)) ne
end
end Mine
end

section
open PySem PySem.W PyProof.Rows PySem.Calls
set_option maxHeartbeats 4000000
namespace Mine

local macro_rules | `(tactic| walk_at "mAt") => `(tactic| with_reducible (repeat (first | exact At.here | exact Upd.here | apply At.there | apply Upd.there)))
local macro_rules | `(tactic| walk_at "mSide") => `(tactic| first
  | assumption
  | decide
  | exact Nat.le_of_ble_eq_true rfl
  | omega
  | ((simp only [List.length_map, List.length_append, List.length_cons, List.length_nil, List.length_reverse, List.length_drop, List.length_take, List.length_replicate]); omega))
local macro_rules | `(tactic| walk_at "mOp") => `(tactic| with_reducible first
  | assumption
  | exact Bin.addI | exact Bin.subI | exact Cmp.ltI | exact Cmp.gtI | exact Cmp.eqI | exact Una.negI | exact Cmp.eqB | exact Cmp.neB | exact Inp.addI
  | exact Tru.int | exact Tru.bool | exact Tru.none | exact Op.absI | exact Op.intI
  | exact Bin.modI (by decide) | exact Bin.divI (by decide) (by decide)
  | exact Op.rfind | exact Op.count | exact Op.starts | exact Op.ends | exact Op.issub | exact Op.isinstB | exact Op.typeB | exact Op.sumI
  | exact Op.divmodI (by decide) (by decide)
  | exact Bin.mulI (IntMulOk.of_right (by decide))
  | exact Op.rstrip (by walk_at "mSide") | exact Op.split (by walk_at "mSide")
  | exact Sli.step (by decide) (by walk_at "mSide")
  | exact Tru.bytes (by walk_at "mSide") | exact Tru.list (by walk_at "mSide") | exact Op.lenL (by walk_at "mSide") | exact Op.lenB (by walk_at "mSide")
  | exact Bin.addB (by walk_at "mSide") | exact Bin.addL (by walk_at "mSide")
  | exact Sli.bytes (by walk_at "mSide") | exact Sli.list (by walk_at "mSide"))
local macro_rules | `(tactic| walk_at "mEvs") => `(tactic| first
  | with_reducible exact Evs.nil
  | ((with_reducible refine' Evs.cons ?qx1 ?qx2); (case qx1 => walk_at "mEv"); (case qx2 => walk_at "mEvs")))
local macro_rules | `(tactic| walk_at "mBd") => `(tactic| first
  | with_reducible exact Bd.none
  | ((with_reducible refine' Bd.some ?qx1); (case qx1 => walk_at "mEv")))
local macro_rules | `(tactic| walk_at "mBlt") => `(tactic| (
  (with_reducible first
    | refine' Ev.call_blt boot_len free_len ?qx1 ?qx2 | refine' Ev.call_blt boot_abs free_abs ?qx1 ?qx2 | refine' Ev.call_blt boot_sum free_sum ?qx1 ?qx2 | refine' Ev.call_blt boot_divmod free_divmod ?qx1 ?qx2
    | refine' Ev.call_blt boot_min free_min ?qx1 ?qx2 | refine' Ev.call_blt boot_max free_max ?qx1 ?qx2 | refine' Ev.call_blt boot_isinstance free_isinstance ?qx1 ?qx2 | refine' Ev.call_blt boot_issubclass free_issubclass ?qx1 ?qx2
    | refine' Ev.call_type boot_type free_type ?qx1 ?qx2 | refine' Ev.call_type boot_int free_int ?qx1 ?qx2)
  (case qx1 => walk_at "mEvs")
  (case qx2 => walk_at "mOp")))
local macro_rules | `(tactic| walk_at "mMeth") => `(tactic| (
  (with_reducible first
    | refine' Ev.bmeth ?qx1 BMeth.rfind ?qx2 ?qx3 | refine' Ev.bmeth ?qx1 BMeth.count ?qx2 ?qx3 | refine' Ev.bmeth ?qx1 BMeth.rstrip ?qx2 ?qx3 | refine' Ev.bmeth ?qx1 BMeth.split ?qx2 ?qx3
    | refine' Ev.bmeth ?qx1 BMeth.join ?qx2 ?qx3 | refine' Ev.bmeth ?qx1 BMeth.startswith ?qx2 ?qx3 | refine' Ev.bmeth ?qx1 BMeth.endswith ?qx2 ?qx3)
  (case qx1 => walk_at "mEv")
  (case qx2 => walk_at "mEvs")
  (case qx3 => walk_at "mOp")))
local macro_rules | `(tactic| walk_at "mEv") => `(tactic| first
  | with_reducible first | assumption | exact Ev.const_int | exact Ev.const_bytes | exact Ev.const_bool | exact Ev.const_none | exact Ev.blt boot_bytes free_bytes | exact Ev.blt boot_str free_str
  | ((with_reducible refine' Ev.name ?qx1 ?qx2); (case qx1 => walk_at "mAt"); (case qx2 => rfl))
  | ((with_reducible first | refine' Ev.binop ?qx1 ?qx2 ?qx3 | refine' Ev.compare ?qx1 ?qx2 ?qx3 | refine' Ev.item ?qx1 ?qx2 ?qx3); (case qx1 => walk_at "mEv"); (case qx2 => walk_at "mEv"); (case qx3 => walk_at "mOp"))
  | ((with_reducible refine' Ev.unary ?qx1 ?qx2); (case qx1 => walk_at "mEv"); (case qx2 => walk_at "mOp"))
  | ((with_reducible first | refine' Ev.list ?qx1 ?qx2 | refine' Ev.tuple ?qx1 ?qx2); (case qx1 => walk_at "mEvs"); (case qx2 => walk_at "mSide"))
  | ((with_reducible refine' Ev.slice ?qx1 ?qx2 ?qx3 ?qx4 ?qx5); (case qx1 => walk_at "mEv"); (case qx2 => walk_at "mBd"); (case qx3 => walk_at "mBd"); (case qx4 => walk_at "mBd"); (case qx5 => walk_at "mOp"))
  | ((with_reducible refine' Ev.call ?qx1 ?qx2); (case qx1 => walk_at "mEvs"); (case qx2 => with_reducible assumption))
  | walk_at "mMeth"
  | walk_at "mBlt")
local macro_rules | `(tactic| walk_at "mTst") => `(tactic| first
  | with_reducible assumption
  | ((with_reducible refine' Tst.compare ?qx1 ?qx2 ?qx3); (case qx1 => walk_at "mEv"); (case qx2 => walk_at "mEv"); (case qx3 => walk_at "mOp"))
  | ((with_reducible refine' Tst.not ?qx1); (case qx1 => walk_at "mTst"))
  | ((with_reducible refine' Tst.plain ?qx1 ?qx2); (case qx1 => walk_at "mEv"); (case qx2 => walk_at "mOp")))
local macro_rules | `(tactic| walk_at "mFn1") => `(tactic| exact fun pm cd doc => all1 fun x => rfl)
local macro_rules | `(tactic| walk_at "mFn2") => `(tactic| exact fun pm cd doc => all2 fun x y => rfl)
local macro_rules | `(tactic| walk_at "mFn4") => `(tactic| exact fun pm cd doc => all4 fun x y z t => rfl)
local macro_rules | `(tactic| walk_at "mCtx") => `(tactic| simp only [List.zip_cons_cons, List.zip_nil_left, List.zip_nil_right, List.map_cons, List.map_nil, List.cons_append, List.nil_append])
local macro_rules | `(tactic| walk_at "asg") => `(tactic| (refine' Exs.cons (Ex.assign (by walk_at "mEv") (by walk_at "mAt")) ?_))
local macro_rules | `(tactic| walk_at "ret") => `(tactic| (refine' Exs.ret (Ex.ret_some ?qx1); (case qx1 => walk_at "mEv")))
local macro_rules | `(tactic| walk_at "iftrue") => `(tactic| (refine' Exs.cons (Ex.if_true ?qx1 ?qx2) ?qx3; (case qx1 => walk_at "mTst"); rotate_left 1))

/-! ## _law_front -/
def front : List (List Int) → Nat
  | [] => 0
  | [_] => 0
  | r :: s :: rows => if r = [0] then front (s :: rows) + 1 else 0

theorem front_lt : ∀ {rows : List (List Int)} {c : Nat}, c < front rows → c + 1 < rows.length ∧ rows[c]? = some [0]
  | [], _, h => by simp [front] at h
  | [_], _, h => by simp [front] at h
  | r :: s :: rows, c, h => by
    unfold front at h
    split at h
    · rename_i h0
      cases c with
      | zero => simp [h0]
      | succ c =>
        have := front_lt (rows := s :: rows) (c := c) (by omega)
        exact ⟨by simp only [List.length_cons] at this ⊢; omega, by simpa using this.2⟩
    · omega
theorem front_at : ∀ {rows : List (List Int)}, front rows + 1 < rows.length → ∃ r, rows[front rows]? = some r ∧ r ≠ [0]
  | [], h => by simp at h
  | [_], h => by simp [front] at h
  | r :: s :: rows, h => by
    unfold front at h ⊢
    split
    · rename_i h0
      rw [if_pos h0] at h
      obtain ⟨r', h1, h2⟩ := front_at (rows := s :: rows) (by simp only [List.length_cons] at h ⊢; omega)
      exact ⟨r', by simpa using h1, h2⟩
    · rename_i h0
      exact ⟨r, rfl, h0⟩
theorem front_le : ∀ (rows : List (List Int)), front rows ≤ rows.length - 1
  | [] => by simp [front]
  | [_] => by simp [front]
  | r :: s :: rows => by
    unfold front
    have := front_le (s :: rows)
    simp only [List.length_cons] at *
    split <;> omega

theorem law_front (w : World) (rows : List (List Int)) (h : rows.length ≤ 1000) : Fn w 2 (fnAt 31) [encR rows] (.int (front rows)) := by
  refine Fn.mk [Str.ofString "rows"] [Str.ofString "count"] (by walk_at "mFn1") rfl (by decide +kernel) (by decide +kernel) fun L a cd => ?_
  show Exs w _ 1 _ [(Str.ofString "rows", encR rows), (Str.ofString "count", .undef)] _ _
  refine Exs.cons (ρ' := [(Str.ofString "rows", encR rows), (Str.ofString "count", .int 0)]) (Ex.assign (by walk_at "mEv") (by walk_at "mAt")) ?_
  refine Exs.cons (Ex.whileN (fun c => [(Str.ofString "rows", encR rows), (Str.ofString "count", .int c)]) (front rows) (fun c hc => ⟨?_, ?_⟩) ?_) (Exs.ret (Ex.ret_some (by walk_at "mEv")))
  · obtain ⟨h1, h2⟩ := front_lt hc
    have it : Itm w 1 (encR rows) (.int c) (encI [0]) := Itm.listPos (by omega) (by simp [h2]) (by omega)
    have cm : Cmp w 1 .Eq (encI [0]) (.list [.int 0]) true := Cmp.eqL (n := 1) rfl (by omega)
    refine Tst.and_true (.eq (by walk_at "mTst") ?_) (Tst.last (.eq (by walk_at "mTst") ?_))
    · simp; omega
    · rfl
  · refine Exs.cons (Ex.assign (by walk_at "mEv") (by walk_at "mAt")) ?_
    exact Exs.nil
  · by_cases hl : front rows + 1 < rows.length
    · obtain ⟨r, h1, h2⟩ := front_at hl
      have it : Itm w 1 (encR rows) (.int (front rows)) (encI r) := Itm.listPos (by omega) (by simp [h1]) (by omega)
      have cm : Cmp w 1 .Eq (encI r) (.list [.int 0]) (r == [0]) := .eq (Cmp.eqL (n := 1) (okDs_ints 1 r [0]) (by omega)) (by rw [← eqDs_ints]; rfl)
      refine Tst.and_true (.eq (by walk_at "mTst") ?_) (Tst.last (.eq (by walk_at "mTst") ?_))
      · simp; omega
      · simpa using h2
    · refine Tst.and_false (.eq (by walk_at "mTst") ?_)
      have := front_le rows
      simp; omega
theorem c_front (w : World) {k : Nat} (hk : 2 ≤ k) (rows : List (List Int)) (h : rows.length ≤ 1000) : FnN w k (Str.ofString "_law_front") [encR rows] (.int (front rows)) := ((law_front w rows h).at (by decide) rfl).mono_k hk

/-! ## _get_sep, fspath -/
theorem get_sep (w : World) (b : List UInt8) : Fn w 2 (fnAt 15) [.bytes b] (.bytes [47]) := by
  refine Fn.mk [Str.ofString "path"] [] (by walk_at "mFn1") rfl (by decide +kernel) (by decide +kernel) fun L a cd => ?_
  walk_at "mCtx"
  refine Exs.ret (Ex.if_true ?_ ?_)
  · refine Tst.plain (a := .bool true) (by walk_at "mEv") Tru.bool
  · walk_at "ret"
theorem c_get_sep (w : World) {k : Nat} (hk : 2 ≤ k) (b : List UInt8) : FnN w k (Str.ofString "_get_sep") [.bytes b] (.bytes [47]) := ((get_sep w b).at (by decide) rfl).mono_k hk
theorem fspath (w : World) (b : List UInt8) : Fn w 2 (fnAt 10) [.bytes b] (.bytes b) := by
  refine Fn.mk [Str.ofString "path"] [Str.ofString "kind"] (by walk_at "mFn1") rfl (by decide +kernel) (by decide +kernel) fun L a cd => ?_
  walk_at "mCtx"
  walk_at "asg"
  refine Exs.ret (Ex.if_true ?_ ?_)
  · refine Tst.plain (a := .bool true) (by walk_at "mEv") Tru.bool
  · walk_at "ret"
theorem c_fspath (w : World) {k : Nat} (hk : 2 ≤ k) (b : List UInt8) : FnN w k (Str.ofString "fspath") [.bytes b] (.bytes b) := ((fspath w b).at (by decide) rfl).mono_k hk
theorem Ex.doc {w : World} {O : Addr → Prop} {k : Nat} {env : Env} {ρ : Ctx} {x kk p pos} (hi : interactive env = false := by with_unfolding_all rfl) (hs : swapsWith (.Constant (.str x) kk p) none pos.line env = pure false := by with_unfolding_all rfl) :
    Ex w O k env ρ (.Expr (.Constant (.str x) kk p) pos) (.next ρ) := fun h₀ N A s E R S => by
  refine wpAny_Expr ?_ hi hs
  refine wpAny_Constant_str ?_
  exact ⟨⟨rfl, S.keeps (kHeap (kToks _))⟩, kMoves (kToks _)⟩

local macro_rules | `(tactic| walk_at "doc") => `(tactic| refine' Exs.cons Ex.doc ?_)

theorem clip_nat (k n : Nat) : clipAt k (n : Int) = min n k := by simp [clipAt]; omega
theorem clip_neg (k : Nat) : clipAt k (-1) = k - 1 := by simp [clipAt]; omega
/-! ## plain forms of cuts -/
theorem cut_to {α : Type} (l : List α) (n : Nat) : cut l none (some (n : Int)) = l.take n := by
  have : clipAt l.length (n : Int) = min n l.length := clip_nat _ _
  simp only [cut, Option.elim, this, List.drop_zero, Nat.sub_zero]
  rw [List.take_eq_take_iff]; omega
theorem cut_from {α : Type} (l : List α) (n : Nat) : cut l (some (n : Int)) none = l.drop n := by
  have : clipAt l.length (n : Int) = min n l.length := clip_nat _ _
  simp only [cut, Option.elim, this]
  rw [List.take_of_length_le (by simp)]
  by_cases h : n ≤ l.length
  · rw [Nat.min_eq_left h]
  · rw [Nat.min_eq_right (by omega), List.drop_of_length_le (by omega), List.drop_of_length_le (by omega)]
theorem cut_mid {α : Type} (l : List α) (a b : Nat) : cut l (some (a : Int)) (some (b : Int)) = (l.drop a).take (b - a) := by
  have h1 : clipAt l.length (a : Int) = min a l.length := clip_nat _ _
  have h2 : clipAt l.length (b : Int) = min b l.length := clip_nat _ _
  simp only [cut, Option.elim, h1, h2]
  by_cases h : a ≤ l.length
  · rw [Nat.min_eq_left h, List.take_eq_take_iff]; simp; omega
  · rw [Nat.min_eq_right (show l.length ≤ a by omega), List.drop_of_length_le (Nat.le_refl _), List.drop_of_length_le (show l.length ≤ a by omega)]; simp
theorem cut_neg_to {α : Type} (l : List α) : cut l none (some (-1)) = l.dropLast := by
  have : clipAt l.length (-1) = l.length - 1 := clip_neg _
  simp only [cut, Option.elim, this, List.drop_zero, Nat.sub_zero, List.dropLast_eq_take]
theorem cut_neg_from {α : Type} (l : List α) : cut l (some (-1)) none = l.drop (l.length - 1) := by
  have : clipAt l.length (-1) = l.length - 1 := clip_neg _
  simp only [cut, Option.elim, this]
  rw [List.take_of_length_le (by simp)]

/-! ## Int2AP -/
def ap (n : Nat) : List UInt8 := if h : n = 0 then [] else ap (n / 16) ++ [65 + (n % 16).toUInt8]
termination_by n
decreasing_by omega
theorem ap_len : ∀ n m, n < 16 ^ m → (ap n).length ≤ m
  | n, 0, h => by
    have : n = 0 := by simpa using h
    subst this; unfold ap; simp
  | n, m + 1, h => by
    unfold ap
    split
    · simp
    · have := ap_len (n / 16) m (by rw [Nat.div_lt_iff_lt_mul (by omega)]; rw [Nat.pow_succ] at h; exact h)
      simp; exact this
theorem ap_step (n : Nat) (h : n ≠ 0) : ap n = ap (n / 16) ++ [65 + (n % 16).toUInt8] := by
  rw [ap, dif_neg h]

abbrev abcP : List UInt8 := [65, 66, 67, 68, 69, 70, 71, 72, 73, 74, 75, 76, 77, 78, 79, 80]
theorem abc_cut : ∀ m : Nat, m < 16 → (abcP.drop m).take 1 = [65 + m.toUInt8] := by decide


def iter {α : Type} (f : α → α) : Nat → α → α
  | 0, x => x
  | n + 1, x => f (iter f n x)
theorem iter_in {α : Type} (f : α → α) : ∀ n x, iter f n (f x) = iter f (n + 1) x
  | 0, _ => rfl
  | n + 1, x => by rw [iter, iter_in f n x]; rfl

abbrev apS := Nat × List UInt8 × D
def apN (s : apS) : apS := (s.1 / 16, [65 + (s.1 % 16).toUInt8] ++ s.2.1, .int ((s.1 % 16 : Nat) : Int))
theorem ap_run : ∀ (b n : Nat) (v : List UInt8) (m : D), n < 16 ^ b → ∃ c, c ≤ b ∧ (∀ i < c, (iter apN i (n, v, m)).1 ≠ 0) ∧ (iter apN c (n, v, m)).1 = 0 ∧ (iter apN c (n, v, m)).2.1 = ap n ++ v ∧ (∀ i ≤ c, (iter apN i (n, v, m)).2.1.length = v.length + i)
  | 0, n, v, m, h => by
    have : n = 0 := by simpa using h
    subst this
    refine ⟨0, Nat.le_refl _, by simp, rfl, by simp [iter, ap], fun i hi => ?_⟩
    have : i = 0 := by omega
    subst this; simp [iter]
  | b + 1, n, v, m, h => by
    by_cases h0 : n = 0
    · subst h0
      refine ⟨0, Nat.zero_le _, by simp, rfl, by simp [iter, ap], fun i hi => ?_⟩
      have : i = 0 := by omega
      subst this; simp [iter]
    · obtain ⟨c, h1, h2, h3, h4, h5⟩ := ap_run b (n / 16) ([65 + (n % 16).toUInt8] ++ v) (.int ((n % 16 : Nat) : Int)) (by rw [Nat.div_lt_iff_lt_mul (by omega)]; rw [Nat.pow_succ] at h; exact h)
      have e : ∀ i, iter apN i (n / 16, [65 + (n % 16).toUInt8] ++ v, .int ((n % 16 : Nat) : Int)) = iter apN (i + 1) (n, v, m) := fun i => iter_in apN i (n, v, m)
      rw [e] at h3 h4
      refine ⟨c + 1, by omega, fun i hi => ?_, h3, ?_, fun i hi => ?_⟩
      · cases i with
        | zero => exact h0
        | succ i => rw [← e]; exact h2 i (by omega)
      · rw [h4, ap_step n h0]; simp
      · cases i with
        | zero => simp [iter]
        | succ i => rw [← e, h5 i (by omega)]; simp; omega

theorem int2ap (w : World) (n : Int) (hn : n.natAbs < 16 ^ 8) : Fn w 2 (fnAt 24) [.int n] (.bytes (ap n.natAbs)) := by
  refine Fn.mk [Str.ofString "num"] [Str.ofString "val", Str.ofString "AP", Str.ofString "mod"] (by walk_at "mFn1") rfl (by decide +kernel) (by decide +kernel) fun L a cd => ?_
  walk_at "mCtx"
  walk_at "doc"
  walk_at "asg"
  walk_at "asg"
  walk_at "asg"
  obtain ⟨c, h1, h2, h3, h4, h5⟩ := ap_run 8 n.natAbs [] .undef hn
  refine Exs.cons (Ex.whileN (fun i => let s := iter apN i (n.natAbs, [], .undef); [(Str.ofString "num", .int s.1), (Str.ofString "val", .bytes s.2.1), (Str.ofString "AP", .bytes abcP), (Str.ofString "mod", s.2.2)]) c (fun i hi => ⟨?_, ?_⟩) ?_) ?_
  · refine .eq (by walk_at "mTst") ?_
    have := h2 i hi
    simp; omega
  · have hl := h5 i (by omega)
    have hm := abc_cut ((iter apN i (n.natAbs, [], D.undef)).1 % 16) (by omega)
    rw [show iter apN (i + 1) (n.natAbs, [], D.undef) = apN (iter apN i (n.natAbs, [], D.undef)) from rfl]
    generalize iter apN i (n.natAbs, [], D.undef) = s at *
    have hl' : s.2.1.length ≤ 8 := by simp at hl; omega
    have sl : Sli w 1 (.bytes abcP) (some ((s.1 % 16 : Nat) : Int)) (some (((s.1 % 16 : Nat) : Int) + 1)) Option.none (.bytes [65 + (s.1 % 16).toUInt8]) := by
      have := Sli.bytes (w := w) (k := 1) (a := abcP) (lo := some ((s.1 % 16 : Nat) : Int)) (hi := some ((s.1 % 16 + 1 : Nat) : Int)) (by decide)
      rw [cut_mid, Nat.add_sub_cancel_left, hm] at this
      exact this
    refine Exs.cons (Ex.unpack2 (a := .int ((s.1 / 16 : Nat) : Int)) (b := .int ((s.1 % 16 : Nat) : Int)) (.eq (by walk_at "mEv") ?_) (by walk_at "mAt") (by walk_at "mAt")) ?_
    · rw [Int.fdiv_eq_ediv_of_nonneg _ (by decide), Int.fmod_eq_emod_of_nonneg _ (by decide)]; rfl
    walk_at "asg"
    exact Exs.nil
  · refine .eq (by walk_at "mTst") ?_
    rw [h3]; rfl
  · rw [List.append_nil] at h4
    rw [← h4]
    walk_at "ret"

theorem c_int2ap (w : World) {k : Nat} (hk : 2 ≤ k) (n : Int) (hn : n.natAbs < 16 ^ 8) : FnN w k (Str.ofString "Int2AP") [.int n] (.bytes (ap n.natAbs)) := ((int2ap w n hn).at (by decide) rfl).mono_k hk

/-! ## splitroot -/
def sroot (p : List UInt8) : List UInt8 × List UInt8 :=
  if p.take 1 = [47] then (if (p.drop 1).take 1 = [47] ∧ (p.drop 2).take 1 ≠ [47] then (p.take 2, p.drop 2) else ([47], p.drop 1)) else ([], p)
theorem splitroot (w : World) (p : List UInt8) (hp : p.length ≤ 16777216) : Fn w 3 (fnAt 20) [.bytes p] (.tuple [.bytes [], .bytes (sroot p).1, .bytes (sroot p).2]) := by
  refine Fn.mk [Str.ofString "p"] [Str.ofString "sep", Str.ofString "empty"] (by walk_at "mFn1") rfl (by decide +kernel) (by decide +kernel) fun L a cd => ?_
  walk_at "mCtx"
  walk_at "doc"
  have c1 := c_fspath w (k := 2) (Nat.le_refl _) p
  walk_at "asg"
  walk_at "iftrue"
  · walk_at "asg"
    walk_at "asg"
    exact Exs.nil
  have s1 : Sli w 2 (.bytes p) (Option.none) (some 1) Option.none (.bytes (p.take 1)) := by
    have := Sli.bytes (w := w) (k := 2) (a := p) (lo := Option.none) (hi := some ((1 : Nat) : Int)) hp
    rw [cut_to] at this
    exact this
  have s2 : Sli w 2 (.bytes p) (some 1) (some 2) Option.none (.bytes ((p.drop 1).take 1)) := by
    have := Sli.bytes (w := w) (k := 2) (a := p) (lo := some ((1 : Nat) : Int)) (hi := some ((2 : Nat) : Int)) hp
    rw [cut_mid] at this
    exact this
  have s3 : Sli w 2 (.bytes p) (some 2) (some 3) Option.none (.bytes ((p.drop 2).take 1)) := by
    have := Sli.bytes (w := w) (k := 2) (a := p) (lo := some ((2 : Nat) : Int)) (hi := some ((3 : Nat) : Int)) hp
    rw [cut_mid] at this
    exact this
  have s4 : Sli w 2 (.bytes p) (some 1) (Option.none) Option.none (.bytes (p.drop 1)) := by
    have := Sli.bytes (w := w) (k := 2) (a := p) (lo := some ((1 : Nat) : Int)) (hi := Option.none) hp
    rw [cut_from] at this
    exact this
  have s5 : Sli w 2 (.bytes p) (some 2) (Option.none) Option.none (.bytes (p.drop 2)) := by
    have := Sli.bytes (w := w) (k := 2) (a := p) (lo := some ((2 : Nat) : Int)) (hi := Option.none) hp
    rw [cut_from] at this
    exact this
  have s6 : Sli w 2 (.bytes p) (Option.none) (some 2) Option.none (.bytes (p.take 2)) := by
    have := Sli.bytes (w := w) (k := 2) (a := p) (lo := Option.none) (hi := some ((2 : Nat) : Int)) hp
    rw [cut_to] at this
    exact this
  unfold sroot
  by_cases h1 : p.take 1 = [47]
  · refine Exs.ret (Ex.if_false (.eq (by walk_at "mTst") (by rw [h1]; rfl)) ?_)
    rw [if_pos h1]
    by_cases h2 : (p.drop 1).take 1 = [47]
    · by_cases h3 : (p.drop 2).take 1 = [47]
      · rw [if_neg (fun h => h.2 h3)]
        dsimp only
        refine Exs.ret (Ex.if_true (Tst.or_false (.eq (by walk_at "mTst") (by rw [h2]; rfl)) (Tst.last (.eq (by walk_at "mTst") (by rw [h3]; rfl)))) ?_)
        walk_at "ret"
      · rw [if_pos ⟨h2, h3⟩]
        dsimp only
        refine Exs.ret (Ex.if_false (Tst.or_false (.eq (by walk_at "mTst") (by rw [h2]; rfl)) (Tst.last (.eq (by walk_at "mTst") (beq_false_of_ne h3)))) ?_)
        walk_at "ret"
    · rw [if_neg (fun h => h2 h.1)]
      dsimp only
      refine Exs.ret (Ex.if_true (Tst.or_true (.eq (by walk_at "mTst") (bne_iff_ne.2 h2))) ?_)
      walk_at "ret"
  · rw [if_neg h1]
    dsimp only
    refine Exs.ret (Ex.if_true (.eq (by walk_at "mTst") (bne_iff_ne.2 h1)) ?_)
    walk_at "ret"
theorem c_splitroot (w : World) {k : Nat} (hk : 3 ≤ k) (p : List UInt8) (hp : p.length ≤ 16777216) : FnN w k (Str.ofString "splitroot") [.bytes p] (.tuple [.bytes [], .bytes (sroot p).1, .bytes (sroot p).2]) := ((splitroot w p hp).at (by decide) rfl).mono_k hk

/-! ## loops as folds -/
def runE {α σ : Type} (f : σ → α → Except D σ) : σ → List α → Except D σ
  | s, [] => .ok s
  | s, a :: r => match f s a with
    | .ok s' => runE f s' r
    | .error d => .error d
def outE {σ : Type} (ctx : σ → Ctx) : Except D σ → Out
  | .ok s => .next (ctx s)
  | .error d => .ret d
section
variable {w : World} {O : Addr → Prop} {k : Nat} {env : Env}
theorem ForD.fold {x : Str} {body : List Stmt} {α σ : Type} (enc : α → D) (ctx : σ → Ctx) (f : σ → α → Except D σ) (I : σ → List α → Prop)
    (step : ∀ s a rest, I s (a :: rest) → ∃ ρ₁, Upd (ctx s) x (enc a) ρ₁ ∧ (∀ s', f s a = .ok s' → I s' rest ∧ (Exs w O k env ρ₁ body (.next (ctx s')) ∨ Exs w O k env ρ₁ body (.cont (ctx s')))) ∧ (∀ d, f s a = .error d → Exs w O k env ρ₁ body (.ret d))) :
    ∀ (as : List α) (s : σ), I s as → ForD w O k env x body (as.map enc) (ctx s) (outE ctx (runE f s as))
  | [], s, _ => .done
  | a :: rest, s, h => by
    obtain ⟨ρ₁, u, h1, h2⟩ := step s a rest h
    rw [List.map_cons]
    cases e : f s a with
    | error d =>
      simp only [runE, e, outE]
      exact .ret u (h2 d e)
    | ok s' =>
      obtain ⟨hI, X⟩ := h1 s' e
      simp only [runE, e]
      rcases X with X | X
      · exact .step u X (ForD.fold enc ctx f I step rest s' hI)
      · exact .cont u X (ForD.fold enc ctx f I step rest s' hI)
theorem Exs.consE {σ : Type} {ρ : Ctx} {st : Stmt} {rest : List Stmt} {ctx : σ → Ctx} {r : Except D σ} {d : D} (a : Ex w O k env ρ st (outE ctx r)) (h1 : ∀ s, r = .ok s → Exs w O k env (ctx s) rest (.ret d)) (h2 : ∀ d', r = .error d' → d' = d) :
    Exs w O k env ρ (st :: rest) (.ret d) := by
  cases r with
  | ok s => exact Exs.cons a (h1 s rfl)
  | error d' => obtain rfl := h2 d' rfl; exact Exs.ret a
end

/-! ## _law_value -/
def wgo : Int → List UInt8 → Int
  | v, [] => v
  | v, c :: r => if c < 65 ∨ 80 < c then -1 else wgo (v * 16 + (c.toNat : Int) - 65) r
def wval (b : List UInt8) : Int := if b.take 1 = [65] then -1 else wgo 0 b

def wstep (s : Int × D) (c : UInt8) : Except D (Int × D) := if c < 65 ∨ 80 < c then .error (D.int (-1)) else .ok (s.1 * 16 + (c.toNat : Int) - 65, D.int (c.toNat : Int))
theorem wstep_res : ∀ (b : List UInt8) (s : Int × D), (∃ t, runE wstep s b = .ok (wgo s.1 b, t)) ∨ (runE wstep s b = .error (.int (-1)) ∧ wgo s.1 b = -1) := by
  intro b
  induction b with
  | nil => intro s; exact .inl ⟨s.2, rfl⟩
  | cons c r ih =>
    intro s
    unfold runE wgo wstep
    by_cases hc : c < 65 ∨ 80 < c
    · rw [if_pos hc, if_pos hc]; exact .inr ⟨rfl, rfl⟩
    · rw [if_neg hc, if_neg hc]; exact ih _
def wctx (b : List UInt8) (s : Int × D) : Ctx := [(Str.ofString "word", .bytes b), (Str.ofString "value", .int s.1), (Str.ofString "letter", s.2)]
theorem law_value (w : World) (b : List UInt8) (hb : b.length ≤ 1000000) : Fn w 2 (fnAt 29) [.bytes b] (.int (wval b)) := by
  refine Fn.mk [Str.ofString "word"] [Str.ofString "value", Str.ofString "letter"] (by walk_at "mFn1") rfl (by decide +kernel) (by decide +kernel) fun L a cd => ?_
  walk_at "mCtx"
  have s1 : Sli w 1 (.bytes b) Option.none (some 1) Option.none (.bytes (b.take 1)) := by
    have := Sli.bytes (w := w) (k := 1) (a := b) (lo := Option.none) (hi := some ((1 : Nat) : Int)) (by omega)
    rw [cut_to] at this
    exact this
  unfold wval
  by_cases h : b.take 1 = [65]
  · rw [if_pos h]
    refine Exs.ret (Ex.if_true (.eq (by walk_at "mTst") (by rw [h]; rfl)) ?_)
    walk_at "ret"
  rw [if_neg h]
  refine Exs.cons (Ex.if_false (.eq (by walk_at "mTst") (beq_false_of_ne h)) Exs.nil) ?_
  walk_at "asg"
  refine Exs.consE (ctx := wctx b) (Ex.for (dv := .bytes b) (by walk_at "mEv") (its_bytes (by rw [sizeLine_eq]; omega)) (ForD.fold (fun c : UInt8 => D.int (c.toNat : Int)) (wctx b) wstep (fun _ _ => True) (fun s c rest _ => ⟨_, (by unfold wctx; walk_at "mAt"), fun s' hs' => ⟨trivial, .inl ?_⟩, fun d hd => ?_⟩) b (0, D.undef) trivial)) ?_ ?_
  · unfold wstep at hs'
    split at hs'
    · cases hs'
    · rename_i hc
      cases hs'
      have h1 : ¬ c < 65 := fun h => hc (.inl h)
      have h2 : ¬ 80 < c := fun h => hc (.inr h)
      rw [UInt8.lt_iff_toNat_lt] at h1 h2
      refine Exs.cons (Ex.if_false (Tst.or_false (.eq (by walk_at "mTst") ?_) (Tst.last (.eq (by walk_at "mTst") ?_))) Exs.nil) ?_
      · simp at h1 ⊢; omega
      · simp at h2 ⊢; omega
      walk_at "asg"
      exact Exs.nil
  · unfold wstep at hd
    split at hd
    · rename_i hc
      cases hd
      rw [UInt8.lt_iff_toNat_lt, UInt8.lt_iff_toNat_lt] at hc
      by_cases h1 : c.toNat < 65
      · refine Exs.ret (Ex.if_true (Tst.or_true (.eq (by walk_at "mTst") ?_)) ?_)
        · simp; omega
        · walk_at "ret"
      · refine Exs.ret (Ex.if_true (Tst.or_false (.eq (by walk_at "mTst") ?_) (Tst.last (.eq (by walk_at "mTst") ?_))) ?_)
        · simp; omega
        · simp at hc h1 ⊢; omega
        · walk_at "ret"
    · cases hd
  · intro s hs
    rcases wstep_res b (0, .undef) with ⟨t, e⟩ | ⟨e, e2⟩
    · rw [e] at hs; cases hs
      unfold wctx
      walk_at "ret"
    · rw [e] at hs; cases hs
  · intro d hd
    rcases wstep_res b (0, .undef) with ⟨t, e⟩ | ⟨e, e2⟩
    · rw [e] at hd; cases hd
    · rw [e] at hd; cases hd
      rw [e2]
theorem c_value (w : World) {k : Nat} (hk : 2 ≤ k) (b : List UInt8) (hb : b.length ≤ 1000000) : FnN w k (Str.ofString "_law_value") [.bytes b] (.int (wval b)) := ((law_value w b hb).at (by decide) rfl).mono_k hk

/-! ## split -/
def lastOf (c : UInt8) (p : List UInt8) : Nat := (p.reverse.dropWhile (· != c)).length
theorem lastOf_le (c : UInt8) (p : List UInt8) : lastOf c p ≤ p.length := by
  unfold lastOf
  exact Nat.le_trans (List.dropWhile_suffix _).length_le (by simp)
theorem rfind_lastOf (c : UInt8) (p : List UInt8) : rfindB c p + 1 = (lastOf c p : Int) := by
  unfold rfindB lastOf; omega
def psplit (p : List UInt8) : List UInt8 × List UInt8 :=
  let h := p.take (lastOf 47 p)
  (if h ≠ [] ∧ h ≠ List.replicate h.length 47 then rstripB 47 h else h, p.drop (lastOf 47 p))

theorem split (w : World) (p : List UInt8) (hp : p.length ≤ 1000000) : Fn w 3 (fnAt 17) [.bytes p] (.tuple [.bytes (psplit p).1, .bytes (psplit p).2]) := by
  refine Fn.mk [Str.ofString "p"] [Str.ofString "sep", Str.ofString "i", Str.ofString "head", Str.ofString "tail"] (by walk_at "mFn1") rfl (by decide +kernel) (by decide +kernel) fun L a cd => ?_
  walk_at "mCtx"
  walk_at "doc"
  have c1 := c_fspath w (k := 2) (Nat.le_refl _) p
  have c2 := c_get_sep w (k := 2) (Nat.le_refl _) p
  walk_at "asg"
  walk_at "asg"
  refine Exs.cons (Ex.assign (.eq (by walk_at "mEv") (congrArg D.int (rfind_lastOf 47 p))) (by walk_at "mAt")) ?_
  have s1 : Sli w 2 (.bytes p) Option.none (some ((lastOf 47 p : Nat) : Int)) Option.none (.bytes (p.take (lastOf 47 p))) := by
    rw [← cut_to]; exact Sli.bytes (by omega)
  have s2 : Sli w 2 (.bytes p) (some ((lastOf 47 p : Nat) : Int)) Option.none Option.none (.bytes (p.drop (lastOf 47 p))) := by
    rw [← cut_from]; exact Sli.bytes (by omega)
  refine Exs.cons (Ex.swapped2 (by walk_at "mEv") (by walk_at "mAt") (by walk_at "mAt")) ?_
  unfold psplit
  have hl : (p.take (lastOf 47 p)).length ≤ 1000000 := by simp; omega
  generalize p.take (lastOf 47 p) = h at *
  dsimp only
  have m1 : Bin w 2 .Mult (.bytes [47]) (.int (h.length : Int)) (.bytes (List.replicate h.length 47)) := by
    have := Bin.mulB (w := w) (k := 2) (b := [47]) (n := (h.length : Int)) (by simp) (by omega) (by omega) (by decide)
    simpa using this
  by_cases h1 : h = []
  · rw [if_neg (fun x => x.1 h1)]
    refine Exs.cons (Ex.if_false (Tst.and_false (.eq (by walk_at "mTst") (by rw [h1]; rfl))) Exs.nil) ?_
    walk_at "ret"
  · have t1 : (!h.isEmpty) = true := by simpa using h1
    by_cases h2 : h = List.replicate h.length 47
    · rw [if_neg (fun x => x.2 h2)]
      refine Exs.cons (Ex.if_false (Tst.and_true (.eq (by walk_at "mTst") t1) (Tst.last (.eq (by walk_at "mTst") (by rw [← h2]; simp)))) Exs.nil) ?_
      walk_at "ret"
    · rw [if_pos ⟨h1, h2⟩]
      refine Exs.cons (Ex.if_true (Tst.and_true (.eq (by walk_at "mTst") t1) (Tst.last (.eq (by walk_at "mTst") (bne_iff_ne.2 h2)))) (Exs.cons (Ex.assign (by walk_at "mEv") (by walk_at "mAt")) Exs.nil)) ?_
      walk_at "ret"
theorem c_split (w : World) {k : Nat} (hk : 3 ≤ k) (p : List UInt8) (hp : p.length ≤ 1000000) : FnN w k (Str.ofString "split") [.bytes p] (.tuple [.bytes (psplit p).1, .bytes (psplit p).2]) := ((split w p hp).at (by decide) rfl).mono_k hk

/-! ## splitext -/
def psx (p : List UInt8) : List UInt8 × List UInt8 :=
  if lastOf 47 p < lastOf 46 p ∧ ((p.take (lastOf 46 p - 1)).drop (lastOf 47 p)).any (· != 46) = true then (p.take (lastOf 46 p - 1), p.drop (lastOf 46 p - 1)) else (p, [])

theorem find_first {α : Type} (q : α → Bool) : ∀ (l : List α), l.any q = true → ∃ (m : Nat) (x : α), l[m]? = some x ∧ q x = true ∧ ∀ i < m, ∃ y, l[i]? = some y ∧ q y = false
  | [], h => by simp at h
  | x :: r, h => by
    by_cases hx : q x = true
    · exact ⟨0, x, rfl, hx, fun i hi => absurd hi (by omega)⟩
    · have hr : r.any q = true := by simpa [hx] using h
      obtain ⟨m, y, h1, h2, h3⟩ := find_first q r hr
      refine ⟨m + 1, y, by simpa using h1, h2, fun i hi => ?_⟩
      cases i with
      | zero => exact ⟨x, rfl, by simpa using hx⟩
      | succ i => simpa using h3 i (by omega)

theorem splitext_ (w : World) (p : List UInt8) (hp : p.length ≤ 1000000) : Fn w 2 (fnAt 12) [.bytes p, .bytes [47], .none, .bytes [46]] (.tuple [.bytes (psx p).1, .bytes (psx p).2]) := by
  refine Fn.mk [Str.ofString "p", Str.ofString "sep", Str.ofString "altsep", Str.ofString "extsep"] [Str.ofString "sepIndex", Str.ofString "altsepIndex", Str.ofString "dotIndex", Str.ofString "filenameIndex"] (by walk_at "mFn4") rfl (by decide +kernel) (by decide +kernel) fun L a cd => ?_
  walk_at "mCtx"
  walk_at "doc"
  walk_at "asg"
  refine Exs.cons (Ex.if_false (by walk_at "mTst") Exs.nil) ?_
  walk_at "asg"
  have e1 := rfind_lastOf 47 p
  have e2 := rfind_lastOf 46 p
  have l1 := lastOf_le 46 p
  generalize rfindB 47 p = a1 at *
  generalize rfindB 46 p = a2 at *
  have cut0 : Sli w 1 (.bytes p) Option.none (some 0) Option.none (.bytes []) := by
    have := Sli.bytes (w := w) (k := 1) (a := p) (lo := Option.none) (hi := some ((0 : Nat) : Int)) (by omega)
    rw [cut_to] at this
    exact this
  have sA (i : Nat) : Sli w 1 (.bytes p) (some ((i : Nat) : Int)) (some (((i : Nat) : Int) + 1)) Option.none (.bytes ((p.drop i).take 1)) := by
    have := Sli.bytes (w := w) (k := 1) (a := p) (lo := some ((i : Nat) : Int)) (hi := some ((i + 1 : Nat) : Int)) (by omega)
    rw [cut_mid, Nat.add_sub_cancel_left] at this
    exact this
  unfold psx
  generalize hA : lastOf 47 p = A at *
  generalize hB : lastOf 46 p = B at *
  by_cases h1 : A < B
  · have ea : a1 + 1 = (A : Int) := e1
    have eb : a2 = ((B - 1 : Nat) : Int) := by omega
    subst eb
    have sB : Sli w 1 (.bytes p) Option.none (some ((B - 1 : Nat) : Int)) Option.none (.bytes (p.take (B - 1))) := by rw [← cut_to]; exact Sli.bytes (by omega)
    have sC : Sli w 1 (.bytes p) (some ((B - 1 : Nat) : Int)) Option.none Option.none (.bytes (p.drop (B - 1))) := by rw [← cut_from]; exact Sli.bytes (by omega)
    have at' (i : Nat) (c : UInt8) (h : ((p.take (B - 1)).drop A)[i]? = some c) : (p.drop (A + i)).take 1 = [c] ∧ A + i < B - 1 := by
      rw [List.getElem?_drop, List.getElem?_take] at h
      split at h
      · rename_i hlt
        have hlp : A + i < p.length := by
          rcases Nat.lt_or_ge (A + i) p.length with h' | h'
          · exact h'
          · rw [List.getElem?_eq_none h'] at h; cases h
        rw [List.getElem?_eq_getElem hlp] at h
        cases h
        exact ⟨by rw [List.drop_eq_getElem_cons hlp]; rfl, hlt⟩
      · cases h
    by_cases h2 : ((p.take (B - 1)).drop A).any (· != 46) = true
    · rw [if_pos ⟨h1, h2⟩]
      obtain ⟨m, x, f1, f2, f3⟩ := find_first _ _ h2
      refine Exs.ret (Ex.if_true (.eq (by walk_at "mTst") (by simp; omega)) ?_)
      refine Exs.cons (Ex.assign (.eq (by walk_at "mEv") (congrArg D.int ea)) (by walk_at "mAt")) ?_
      refine Exs.ret (Ex.whileR (fun i => [(Str.ofString "p", .bytes p), (Str.ofString "sep", .bytes [47]), (Str.ofString "altsep", .none), (Str.ofString "extsep", .bytes [46]), (Str.ofString "sepIndex", .int a1), (Str.ofString "altsepIndex", .undef), (Str.ofString "dotIndex", .int ((B - 1 : Nat) : Int)), (Str.ofString "filenameIndex", .int ((A + i : Nat) : Int))]) m (fun i hi => ⟨?_, ?_⟩) ⟨?_, ?_⟩)
      · obtain ⟨y, y1, y2⟩ := f3 i hi
        obtain ⟨y3, y4⟩ := at' i y y1
        exact .eq (by walk_at "mTst") (by simp; omega)
      · obtain ⟨y, y1, y2⟩ := f3 i hi
        obtain ⟨y3, y4⟩ := at' i y y1
        have y5 : y = 46 := by simpa using y2
        refine Exs.cons (Ex.if_false (.eq (by have sA' := sA (A + i); walk_at "mTst") (by rw [y3, y5]; rfl)) Exs.nil) ?_
        refine Exs.cons (Ex.aug (by walk_at "mAt") (by walk_at "mEv") (Op.eq Inp.addI (d' := .int ((A + (i + 1) : Nat) : Int)) (by congr 1)) (by walk_at "mAt") rfl) Exs.nil
      · obtain ⟨y3, y4⟩ := at' m x f1
        exact .eq (by walk_at "mTst") (by simp; omega)
      · obtain ⟨y3, y4⟩ := at' m x f1
        refine Exs.ret (Ex.if_true (.eq (by have sA' := sA (A + m); walk_at "mTst") ?_) ?_)
        · rw [y3]; simpa using f2
        · walk_at "ret"
    · rw [if_neg (fun x => h2 x.2)]
      have h3 : ∀ i : Nat, i < ((p.take (B - 1)).drop A).length → ∃ y, ((p.take (B - 1)).drop A)[i]? = some y ∧ (y != 46) = false := fun i hi => by
        refine ⟨_, List.getElem?_eq_getElem hi, ?_⟩
        rw [Bool.not_eq_true, List.any_eq_false] at h2
        simpa using h2 _ (List.getElem_mem hi)
      have h4 : ((p.take (B - 1)).drop A).length = B - 1 - A := by simp; omega
      generalize ((p.take (B - 1)).drop A) = mid at *
      refine Exs.cons (Ex.if_true (.eq (by walk_at "mTst") (by simp; omega)) (Exs.cons (Ex.assign (.eq (by walk_at "mEv") (congrArg D.int (show a1 + 1 = ((A + 0 : Nat) : Int) from ea))) (by walk_at "mAt")) (Exs.cons (Ex.whileN (fun i => [(Str.ofString "p", .bytes p), (Str.ofString "sep", .bytes [47]), (Str.ofString "altsep", .none), (Str.ofString "extsep", .bytes [46]), (Str.ofString "sepIndex", .int a1), (Str.ofString "altsepIndex", .undef), (Str.ofString "dotIndex", .int ((B - 1 : Nat) : Int)), (Str.ofString "filenameIndex", .int ((A + i : Nat) : Int))]) mid.length (fun i hi => ⟨?_, ?_⟩) ?_) Exs.nil))) ?_
      · obtain ⟨y, y1, y2⟩ := h3 i hi
        obtain ⟨y3, y4⟩ := at' i y y1
        exact .eq (by walk_at "mTst") (by simp; omega)
      · obtain ⟨y, y1, y2⟩ := h3 i hi
        obtain ⟨y3, y4⟩ := at' i y y1
        have y5 : y = 46 := by simpa using y2
        refine Exs.cons (Ex.if_false (.eq (by have sA' := sA (A + i); walk_at "mTst") (by rw [y3, y5]; rfl)) Exs.nil) ?_
        refine Exs.cons (Ex.aug (by walk_at "mAt") (by walk_at "mEv") (Op.eq Inp.addI (d' := .int ((A + (i + 1) : Nat) : Int)) (by congr 1)) (by walk_at "mAt") rfl) Exs.nil
      · exact .eq (by walk_at "mTst") (by simp; omega)
      · walk_at "ret"
  · rw [if_neg (fun x => h1 x.1)]
    refine Exs.cons (Ex.if_false (.eq (by walk_at "mTst") (by simp; omega)) Exs.nil) ?_
    walk_at "ret"
theorem c_splitext_ (w : World) {k : Nat} (hk : 2 ≤ k) (p : List UInt8) (hp : p.length ≤ 1000000) : FnN w k (Str.ofString "_splitext") [.bytes p, .bytes [47], .none, .bytes [46]] (.tuple [.bytes (psx p).1, .bytes (psx p).2]) := ((splitext_ w p hp).at (by decide) rfl).mono_k hk
theorem splitext (w : World) (p : List UInt8) (hp : p.length ≤ 1000000) : Fn w 3 (fnAt 18) [.bytes p] (.tuple [.bytes (psx p).1, .bytes (psx p).2]) := by
  refine Fn.mk [Str.ofString "p"] [Str.ofString "sep", Str.ofString "extsep"] (by walk_at "mFn1") rfl (by decide +kernel) (by decide +kernel) fun L a cd => ?_
  walk_at "mCtx"
  have c1 := c_fspath w (k := 2) (Nat.le_refl _) p
  have c2 := c_splitext_ w (k := 2) (Nat.le_refl _) p hp
  walk_at "asg"
  walk_at "iftrue"
  · walk_at "asg"
    walk_at "asg"
    exact Exs.nil
  walk_at "ret"
theorem c_splitext (w : World) {k : Nat} (hk : 3 ≤ k) (p : List UInt8) (hp : p.length ≤ 1000000) : FnN w k (Str.ofString "splitext") [.bytes p] (.tuple [.bytes (psx p).1, .bytes (psx p).2]) := ((splitext w p hp).at (by decide) rfl).mono_k hk
theorem no_nil {x : Str} : ∀ e ∈ ([] : Ctx), e.1 ≠ x → ∀ b c, e.2 ≠ .own b c := by simp
theorem no_here {x y : Str} {d : D} {r : Ctx} (h : ∀ b c, d ≠ .own b c) (hr : ∀ e ∈ r, e.1 ≠ x → ∀ b c, e.2 ≠ .own b c) : ∀ e ∈ (y, d) :: r, e.1 ≠ x → ∀ b c, e.2 ≠ .own b c := by
  intro e he hx
  rcases List.mem_cons.1 he with rfl | he
  · exact h
  · exact hr e he hx
theorem no_self {x : Str} {d : D} {r : Ctx} (hr : ∀ e ∈ r, e.1 ≠ x → ∀ b c, e.2 ≠ .own b c) : ∀ e ∈ (x, d) :: r, e.1 ≠ x → ∀ b c, e.2 ≠ .own b c := by
  intro e he hx
  rcases List.mem_cons.1 he with rfl | he
  · exact absurd rfl hx
  · exact hr e he hx

local macro_rules | `(tactic| walk_at "mNoOwn") => `(tactic| (repeat (first | exact no_nil | with_reducible refine no_self ?_ | refine no_here (fun b c q => nomatch q) ?_)))

/-! ## normpath -/
def nstep (sl : List UInt8) (new : List (List UInt8)) (c : List UInt8) : List (List UInt8) :=
  if c = [] ∨ c = [46] then new
  else if c ≠ [46, 46] ∨ (sl = [] ∧ new = []) ∨ new.getLast? = some [46, 46] then new ++ [c]
  else new.dropLast
def normB (p : List UInt8) : List UInt8 :=
  if p = [] then [46] else
    let r := (sroot p).1 ++ joinB [47] ((splitB 47 (sroot p).2).foldl (nstep (sroot p).1) [])
    if r = [] then [46] else r

theorem sroot_len (p : List UInt8) : (sroot p).1.length ≤ p.length ∧ (sroot p).2.length ≤ p.length ∧ (sroot p).1.length ≤ 2 := by
  unfold sroot
  split
  · split
    · exact ⟨by simp; omega, by simp, by simp; omega⟩
    · rename_i h _
      refine ⟨?_, by simp, by simp⟩
      have := congrArg List.length h
      simp at this ⊢; omega
  · exact ⟨by simp, by simp, by simp⟩

theorem join_bound {sep : List UInt8} : ∀ {xs : List (List UInt8)} {M : Nat}, (∀ x ∈ xs, x.length ≤ M) → (joinB sep xs).length ≤ sep.length * xs.length + xs.length * M ∧ (xs.map (·.length)).sum ≤ xs.length * M
  | [], M, _ => by simp [joinB]
  | x :: r, M, h => by
    have ih := join_bound (sep := sep) (xs := r) (M := M) fun y hy => h y (List.mem_cons_of_mem _ hy)
    have hx := h x (List.mem_cons_self ..)
    have e1 : (x :: r).length * M = r.length * M + M := by simp [Nat.add_mul]
    have e2 : sep.length * (x :: r).length = sep.length * r.length + sep.length := by simp [Nat.mul_add]
    rw [e1, e2]
    refine ⟨?_, by simp; omega⟩
    cases r with
    | nil => simp [joinB]; omega
    | cons y r => simp only [joinB, List.length_append]; omega

abbrev NS := List (List UInt8) × Option (List UInt8)
def nI (s : NS) (l : List (List UInt8)) : Prop := s.1.length + l.length ≤ 2001 ∧ (∀ x ∈ s.1, x.length ≤ 2000) ∧ (∀ x ∈ l, x.length ≤ 2000)
def nE (sl : List UInt8) (s : NS) (c : List UInt8) : Except D NS := .ok (nstep sl s.1 c, some c)
def ncomp : Option (List UInt8) → D
  | none => .undef
  | some c => .bytes c
def nctx (p sl : List UInt8) (cs : List (List UInt8)) (a : Addr) (new : List (List UInt8)) (c : Option (List UInt8)) : Ctx :=
  [(Str.ofString "path", .bytes p), (Str.ofString "sep", .bytes [47]), (Str.ofString "dot", .bytes [46]), (Str.ofString "dotdot", .bytes [46, 46]), (Str.ofString "_", .bytes []), (Str.ofString "initial_slashes", .bytes sl), (Str.ofString "comps", .list (cs.map .bytes)), (Str.ofString "new_comps", .own a (new.map .bytes)), (Str.ofString "comp", ncomp c)]

theorem getLast_snoc {α : Type} {l : List α} (h : l ≠ []) : ∃ r x, l = r ++ [x] := ⟨l.dropLast, l.getLast h, (List.dropLast_concat_getLast h).symm⟩

theorem nstep_inv (sl : List UInt8) {c : List UInt8} {rest new : List (List UInt8)} (h1 : new.length + (c :: rest).length ≤ 2001) (h2 : ∀ x ∈ new, x.length ≤ 2000) (h3 : ∀ x ∈ c :: rest, x.length ≤ 2000) :
    (nstep sl new c).length + rest.length ≤ 2001 ∧ ∀ x ∈ nstep sl new c, x.length ≤ 2000 := by
  have hc := h3 c (List.mem_cons_self ..)
  simp only [List.length_cons] at h1
  unfold nstep
  split
  · exact ⟨by omega, h2⟩
  · split
    · refine ⟨by simp; omega, fun x hx => ?_⟩
      rcases List.mem_append.1 hx with hx | hx
      · exact h2 x hx
      · rw [List.mem_singleton.1 hx]; exact hc
    · exact ⟨by simp; omega, fun x hx => h2 x (List.dropLast_subset _ hx)⟩

theorem normpath (w : World) (p : List UInt8) (hp : p.length ≤ 2000) : Fn w 4 (fnAt 21) [.bytes p] (.bytes (normB p)) := by
  refine Fn.mk [Str.ofString "path"] [Str.ofString "sep", Str.ofString "dot", Str.ofString "dotdot", Str.ofString "_", Str.ofString "initial_slashes", Str.ofString "comps", Str.ofString "new_comps", Str.ofString "comp"] (by walk_at "mFn1") rfl (by decide +kernel) (by decide +kernel) fun L a_1 cd => ?_
  walk_at "mCtx"
  walk_at "doc"
  have c1 := c_fspath w (k := 3) (by omega) p
  have c2 := c_splitroot w (k := 3) (by omega) p (by omega)
  walk_at "asg"
  walk_at "iftrue"
  · walk_at "asg"
    walk_at "asg"
    walk_at "asg"
    exact Exs.nil
  unfold normB
  by_cases h0 : p = []
  · rw [if_pos h0]
    refine Exs.ret (Ex.if_true (.eq (by walk_at "mTst") (by rw [h0]; rfl)) ?_)
    walk_at "ret"
  rw [if_neg h0]
  obtain ⟨q1, q2, q3⟩ := sroot_len p
  generalize (sroot p).1 = sl at *
  generalize (sroot p).2 = t at *
  refine Exs.cons (Ex.if_false (.eq (by walk_at "mTst") (by simpa using h0)) Exs.nil) ?_
  refine Exs.cons (Ex.unpack3 (by walk_at "mEv") (by walk_at "mAt") (by walk_at "mAt") (by walk_at "mAt")) ?_
  walk_at "asg"
  dsimp only
  obtain ⟨s1, s2⟩ := splitB_len 47 t
  generalize splitB 47 t = cs at *
  have inv : ∀ (l : List (List UInt8)) (new : List (List UInt8)), new.length + l.length ≤ 2001 → (∀ x ∈ new, x.length ≤ 2000) → (∀ x ∈ l, x.length ≤ 2000) → (l.foldl (nstep sl) new).length ≤ 2001 ∧ ∀ x ∈ l.foldl (nstep sl) new, x.length ≤ 2000 := by
    intro l
    induction l with
    | nil => intro new h1 h2 _; exact ⟨by simpa using h1, h2⟩
    | cons c l ih =>
      intro new h1 h2 h3
      obtain ⟨g1, g2⟩ := nstep_inv sl (rest := l) h1 h2 h3
      exact ih _ g1 g2 (fun x hx => h3 x (List.mem_cons_of_mem _ hx))
  have s3 : ∀ x ∈ cs, x.length ≤ 2000 := fun x hx => Nat.le_trans (s2 x hx) (by omega)
  obtain ⟨i1, i2⟩ := inv cs [] (by simp; omega) (by simp) s3
  have lastc : ∀ (l : List (List UInt8)) (s : List (List UInt8) × Option (List UInt8)), runE (nE sl) s l = .ok (l.foldl (nstep sl) s.1, (l.foldl (fun _ c => some c) s.2)) := by
    intro l
    induction l with
    | nil => intro s; rfl
    | cons c l ih => intro s; rw [runE]; exact ih _
  have res := lastc cs ([], none)
  generalize cs.foldl (fun _ c => some c) none = lc at res
  refine Exs.own (ρ' := fun a => nctx t sl cs a [] none) (ρ'' := fun a => nctx t sl cs a (cs.foldl (nstep sl) []) lc) (ds := (cs.foldl (nstep sl) []).map .bytes) (fun a => by unfold nctx; simp only [ncomp, List.map_nil]; walk_at "mAt") (fun a => ?_) (fun a => by unfold nctx; walk_at "mAt") (fun a => by unfold nctx; walk_at "mAt") ?_
  · have key : ∀ {st : Stmt}, Ex w (fun b => False ∨ b = a) 3 (fnEnv (fnAt 21) L a_1 cd) (nctx t sl cs a [] none) st (outE (fun s : NS => nctx t sl cs a s.1 s.2) (runE (nE sl) ([], none) cs)) →
        Ex w (fun b => False ∨ b = a) 3 (fnEnv (fnAt 21) L a_1 cd) (nctx t sl cs a [] none) st (.next (nctx t sl cs a (cs.foldl (nstep sl) []) lc)) := fun h => by rw [res] at h; exact h
    refine key (Ex.for (dv := .list (cs.map .bytes)) (by unfold nctx; walk_at "mEv") (its_list (by rw [sizeLine_eq]; simp; omega)) (ForD.fold D.bytes (fun s : NS => nctx t sl cs a s.1 s.2) (nE sl) nI (fun s c rest hI => ?_) cs ([], none) ⟨by simp; omega, by simp, s3⟩))
    obtain ⟨new, oc⟩ := s
    obtain ⟨h1, h2, h3⟩ := hI
    refine ⟨nctx t sl cs a new (some c), (by unfold nctx; simp only [ncomp]; walk_at "mAt"), fun s' hs' => ⟨?_, ?_⟩, fun d hd => by cases hd⟩
    · cases hs'
      obtain ⟨g1, g2⟩ := nstep_inv sl h1 h2 h3
      exact ⟨g1, g2, fun x hx => h3 x (List.mem_cons_of_mem _ hx)⟩
    cases hs'
    have hcl := h3 c (List.mem_cons_self ..)
    simp only [List.length_cons] at h1
    unfold nctx nstep
    simp only [ncomp]
    by_cases e1 : c = [] ∨ c = [46]
    · rw [if_pos e1]
      refine .inr (Exs.cont (Ex.if_true ?_ (Exs.cont Ex.continue)))
      rcases e1 with rfl | rfl
      · refine Tst.or_true (.eq (Tst.not (Tst.plain (by walk_at "mEv") (Tru.bytes (by decide)))) rfl)
      · refine Tst.or_false (.eq (Tst.not (Tst.plain (by walk_at "mEv") (Tru.bytes (by decide)))) rfl) (Tst.last (.eq (by walk_at "mTst") (by rfl)))
    rw [if_neg e1]
    have e2 : ¬ c = [] := fun h => e1 (.inl h)
    have e3 : ¬ c = [46] := fun h => e1 (.inr h)
    refine .inl ?_
    refine Exs.cons (Ex.if_false (Tst.or_false (.eq (by walk_at "mTst") (by simpa using e2)) (Tst.last (.eq (by walk_at "mTst") (beq_false_of_ne e3)))) Exs.nil) ?_
    have hn : (new.map D.bytes).length ≤ 16777215 := by simp; omega
    by_cases e4 : c = [46, 46]
    · subst e4
      have tl : Tru w 3 (.bytes sl) (!sl.isEmpty) := Tru.bytes (by omega)
      have tn : Tru w 3 (.list (new.map .bytes)) (!(new.map D.bytes).isEmpty) := Tru.list (by omega)
      by_cases e5 : sl = [] ∧ new = []
      · rw [if_pos (.inr (.inl e5))]
        refine Exs.cons (Ex.if_true (Tst.thaw (by walk_at "mAt") (by walk_at "mAt") (Tst.or_false (.eq (by walk_at "mTst") (by rfl)) (Tst.or_true (Tst.and_true (.eq (by walk_at "mTst") (by rw [e5.1]; rfl)) (Tst.last (.eq (by walk_at "mTst") (by rw [e5.2]; rfl))))))) (Exs.cons (Ex.append (by walk_at "mAt") (by walk_at "mEv") (by walk_at "mAt") (by walk_at "mNoOwn") (.inr rfl) hn) ?_)) Exs.nil
        rw [List.map_append]
        exact Exs.nil
      have t2 : ∀ {ρ e1 e2 p}, Tst w 3 (fnEnv (fnAt 21) L a_1 cd) ρ e1 (!(!sl.isEmpty)) → Tst w 3 (fnEnv (fnAt 21) L a_1 cd) ρ e2 (!(!(new.map D.bytes).isEmpty)) → Tst w 3 (fnEnv (fnAt 21) L a_1 cd) ρ (.BoolOp .And [e1, e2] p) false := fun x1 x2 => by
        by_cases hs : sl = []
        · have hnn : new ≠ [] := fun h => e5 ⟨hs, h⟩
          exact Tst.and_true (.eq x1 (by rw [hs]; rfl)) (Tst.last (.eq x2 (by simpa using hnn)))
        · exact Tst.and_false (.eq x1 (by simpa using hs))
      by_cases e6 : new = []
      · have e7 : ¬ ((46 :: [46] : List UInt8) ≠ [46, 46] ∨ (sl = [] ∧ new = []) ∨ new.getLast? = some [46, 46]) := by
          rintro (h | h | h)
          · exact h rfl
          · exact e5 h
          · rw [e6] at h; cases h
        rw [if_neg e7]
        subst e6
        refine Exs.cons (Ex.if_false (Tst.thaw (by walk_at "mAt") (by walk_at "mAt") (Tst.or_false (.eq (by walk_at "mTst") (by rfl)) (Tst.or_false (t2 (by walk_at "mTst") (by walk_at "mTst")) (Tst.last (Tst.and_false (.eq (by walk_at "mTst") (by rfl))))))) ?_) Exs.nil
        refine Exs.cons (Ex.if_false (Tst.thaw (by walk_at "mAt") (by walk_at "mAt") (.eq (by walk_at "mTst") (by rfl))) Exs.nil) Exs.nil
      obtain ⟨r, x, rfl⟩ := getLast_snoc e6
      have it : Itm w 3 (.list ((r ++ [x]).map .bytes)) (.int (-1)) (.bytes x) := Itm.listNeg (by omega) (by simp; omega) (by rw [show ((-1 : Int) + (((r ++ [x]).map D.bytes).length : Int)).toNat = r.length by simp; omega]; simp) (by omega)
      by_cases e8 : x = [46, 46]
      · rw [if_pos (.inr (.inr (by rw [e8]; simp)))]
        refine Exs.cons (Ex.if_true (Tst.thaw (by walk_at "mAt") (by walk_at "mAt") (Tst.or_false (.eq (by walk_at "mTst") (by rfl)) (Tst.or_false (t2 (by walk_at "mTst") (by walk_at "mTst")) (Tst.last (Tst.and_true (.eq (by walk_at "mTst") (by simp)) (Tst.last (.eq (by walk_at "mTst") (by rw [e8]; rfl)))))))) (Exs.cons (Ex.append (by walk_at "mAt") (by walk_at "mEv") (by walk_at "mAt") (by walk_at "mNoOwn") (.inr rfl) hn) ?_)) Exs.nil
        rw [show List.map D.bytes (r ++ [x] ++ [[46, 46]]) = List.map D.bytes (r ++ [x]) ++ [D.bytes [46, 46]] by simp]
        exact Exs.nil
      · have e7 : ¬ ((46 :: [46] : List UInt8) ≠ [46, 46] ∨ (sl = [] ∧ (r ++ [x]) = []) ∨ (r ++ [x]).getLast? = some [46, 46]) := by
          rintro (h | h | h)
          · exact h rfl
          · exact e5 h
          · simp at h; exact e8 h
        rw [if_neg e7]
        refine Exs.cons (Ex.if_false (Tst.thaw (by walk_at "mAt") (by walk_at "mAt") (Tst.or_false (.eq (by walk_at "mTst") (by rfl)) (Tst.or_false (t2 (by walk_at "mTst") (by walk_at "mTst")) (Tst.last (Tst.and_true (.eq (by walk_at "mTst") (by simp)) (Tst.last (.eq (by walk_at "mTst") (beq_false_of_ne e8)))))))) ?_) Exs.nil
        refine Exs.cons (Ex.if_true (Tst.thaw (by walk_at "mAt") (by walk_at "mAt") (.eq (by walk_at "mTst") (by simp))) ?_) Exs.nil
        rw [List.map_append, List.dropLast_concat, List.map_cons, List.map_nil]
        refine Exs.cons (Ex.pop (by walk_at "mAt") (by walk_at "mAt") rfl (by walk_at "mNoOwn") (.inr rfl) (by simp at h1 ⊢; omega)) Exs.nil
    · rw [if_pos (.inl e4)]
      refine Exs.cons (Ex.if_true (Tst.thaw (by walk_at "mAt") (by walk_at "mAt") (Tst.or_true (.eq (by walk_at "mTst") (bne_iff_ne.2 e4)))) (Exs.cons (Ex.append (by walk_at "mAt") (by walk_at "mEv") (by walk_at "mAt") (by walk_at "mNoOwn") (.inr rfl) hn) ?_)) Exs.nil
      rw [List.map_append]
      exact Exs.nil
  · generalize cs.foldl (nstep sl) [] = new at *
    have jb := join_bound (sep := [47]) i2
    have jn := Op.join (w := w) (k := 3) (sep := [47]) (xs := new) (by simp at jb; omega) (by simp at jb ⊢; omega)
    have ab : Bin w 3 .Add (.bytes sl) (.bytes (joinB [47] new)) (.bytes (sl ++ joinB [47] new)) := Bin.addB (by simp at jb; omega)
    walk_at "asg"
    walk_at "asg"
    have lr : (sl ++ joinB [47] new).length ≤ 16777216 := by simp at jb ⊢; omega
    generalize sl ++ joinB [47] new = r at *
    by_cases hr : r = []
    · rw [if_pos hr]
      refine Exs.ret (Ex.ret_some (Ev.or_false (by walk_at "mEv") (a := .bytes r) ?_ (by walk_at "mEv")))
      have := Tru.bytes (w := w) (k := 3) (a := r) lr
      rw [hr] at this ⊢
      exact this
    · rw [if_neg hr]
      refine Exs.ret (Ex.ret_some (Ev.or_true (by walk_at "mEv") (a := .bytes r) ?_))
      have := Tru.bytes (w := w) (k := 3) (a := r) lr
      rw [show (!r.isEmpty) = true by simpa using hr] at this
      exact this

/-! ## _law_spell -/
def rowB (row : List Int) : List UInt8 := joinB [46] (row.map fun n => ap n.natAbs)
def spellB (rows : List (List Int)) : List UInt8 := joinB [47] (rows.map rowB)
def RowOk (row : List Int) : Prop := row.length ≤ 4 ∧ ∀ n ∈ row, 0 ≤ n ∧ n ≤ 300
def RowsOk (rows : List (List Int)) : Prop := rows.length ≤ 40 ∧ ∀ row ∈ rows, RowOk row

theorem ap_len3 {n : Int} (h : 0 ≤ n ∧ n ≤ 300) : (ap n.natAbs).length ≤ 3 := ap_len _ 3 (by omega)
theorem rowB_bound {row : List Int} (h : RowOk row) : (rowB row).length ≤ 16 ∧ ((row.map fun n => ap n.natAbs).map (·.length)).sum ≤ 12 := by
  have := join_bound (sep := [46]) (xs := row.map fun n => ap n.natAbs) (M := 3) (fun x hx => by
    obtain ⟨n, hn, rfl⟩ := List.mem_map.1 hx
    exact ap_len3 (h.2 n hn))
  have h1 := h.1
  simp only [List.length_map, List.length_cons, List.length_nil] at this
  unfold rowB
  omega
theorem spellB_bound {rows : List (List Int)} (h : RowsOk rows) : (spellB rows).length ≤ 680 ∧ ((rows.map rowB).map (·.length)).sum ≤ 640 := by
  have := join_bound (sep := [47]) (xs := rows.map rowB) (M := 16) (fun x hx => by
    obtain ⟨n, hn, rfl⟩ := List.mem_map.1 hx
    exact (rowB_bound (h.2 n hn)).1)
  have h1 := h.1
  simp only [List.length_map, List.length_cons, List.length_nil] at this
  unfold spellB
  omega

theorem law_spell (w : World) (rows : List (List Int)) (sg : Int) (hr : RowsOk rows) (hs : sg = 1 ∨ sg = -1) : Fn w 3 (fnAt 28) [encR rows, .int sg] (.bytes (spellB rows)) := by
  refine Fn.mk [Str.ofString "rows", Str.ofString "sign"] [] (by walk_at "mFn2") rfl (by decide +kernel) (by decide +kernel) fun L a cd => ?_
  walk_at "mCtx"
  obtain ⟨b1, b2⟩ := spellB_bound hr
  have jn := Op.join (w := w) (k := 2) (sep := [47]) (xs := rows.map rowB) (by show (spellB rows).length ≤ _; omega) (by have := hr.1; simp at b2 ⊢; omega)
  refine Exs.ret (Ex.ret_some (Ev.bmeth (by walk_at "mEv") BMeth.join (Evs.cons (d := encB (rows.map rowB)) ?_ Evs.nil) jn))
  have e1 : encB (rows.map rowB) = .list (rows.map fun r => D.bytes (rowB r)) := by simp [encB, Function.comp_def]
  rw [e1]
  refine Ev.comp0 encI inj_encI rows _ (by walk_at "mEv") (its_list (by rw [sizeLine_eq]; have := hr.1; simp; omega)) (FreeOk.one (y := Str.ofString "sign") (by walk_at "mAt") rfl) (fun row hrow C => ?_)
  have ok := hr.2 row hrow
  obtain ⟨b3, b4⟩ := rowB_bound ok
  have jn2 := Op.join (w := w) (k := 2) (sep := [46]) (xs := row.map fun n => ap n.natAbs) (by show (rowB row).length ≤ _; omega) (by have := ok.1; simp at b4 ⊢; omega)
  refine Ev.bmeth (by walk_at "mEv") BMeth.join (Evs.cons (d := encB (row.map fun n => ap n.natAbs)) ?_ Evs.nil) jn2
  have e2 : encB (row.map fun n => ap n.natAbs) = .list (row.map fun n => D.bytes (ap n.natAbs)) := by simp [encB, Function.comp_def]
  rw [e2]
  refine Ev.comp0 D.int inj_int row _ (by walk_at "mEv") (its_list (by rw [sizeLine_eq]; have := ok.1; simp; omega)) (FreeOk.one (y := Str.ofString "sign") (by walk_at "mAt") rfl) (fun n hn C2 => ?_)
  have hn' := ok.2 n hn
  have ml : Bin w 2 .Mult (.int sg) (.int n) (.int (sg * n)) := Bin.mulI (by rcases hs with rfl | rfl <;> exact IntMulOk.of_left (by decide))
  have e3 : (sg * n).natAbs = n.natAbs := by rcases hs with rfl | rfl <;> simp
  have c1 := c_int2ap w (k := 2) (Nat.le_refl _) (sg * n) (by rw [e3]; omega)
  rw [e3] at c1
  walk_at "mEv"
theorem c_spell (w : World) {k : Nat} (hk : 3 ≤ k) (rows : List (List Int)) (sg : Int) (hr : RowsOk rows) (hs : sg = 1 ∨ sg = -1) : FnN w k (Str.ofString "_law_spell") [encR rows, .int sg] (.bytes (spellB rows)) := ((law_spell w rows sg hr hs).at (by decide) rfl).mono_k hk

/-! ## _law_read -/
def readB (p : List UInt8) : List (List Int) := (splitB 47 p).map fun name => (splitB 46 name).map wval
theorem law_read (w : World) (p : List UInt8) (hp : p.length ≤ 2000) : Fn w 3 (fnAt 30) [.bytes p] (encR (readB p)) := by
  refine Fn.mk [Str.ofString "path"] [] (by walk_at "mFn1") rfl (by decide +kernel) (by decide +kernel) fun L a cd => ?_
  walk_at "mCtx"
  obtain ⟨s1, s2⟩ := splitB_len 47 p
  have e1 : encR (readB p) = .list ((splitB 47 p).map fun name => encI ((splitB 46 name).map wval)) := by simp [encR, readB, Function.comp_def]
  rw [e1]
  refine Exs.ret (Ex.ret_some (Ev.comp0 D.bytes inj_bytes (splitB 47 p) _ (by walk_at "mEv") (its_list (by rw [sizeLine_eq]; simp; omega)) (FreeOk.none (by decide) (by decide) (by decide)) (fun name hname C => ?_)))
  have hl := s2 name hname
  obtain ⟨s3, s4⟩ := splitB_len 46 name
  have e2 : encI ((splitB 46 name).map wval) = .list ((splitB 46 name).map fun x => D.int (wval x)) := by simp [encI, Function.comp_def]
  rw [e2]
  refine Ev.comp0 D.bytes inj_bytes (splitB 46 name) _ (by walk_at "mEv") (its_list (by rw [sizeLine_eq]; simp; omega)) (FreeOk.none (by decide) (by decide) (by decide)) (fun x hx C2 => ?_)
  have hx' := s4 x hx
  have c1 := c_value w (k := 2) (Nat.le_refl _) x (by omega)
  walk_at "mEv"
theorem c_read (w : World) {k : Nat} (hk : 3 ≤ k) (p : List UInt8) (hp : p.length ≤ 2000) : FnN w k (Str.ofString "_law_read") [.bytes p] (encR (readB p)) := ((law_read w p hp).at (by decide) rfl).mono_k hk

/-! ## _law_row -/
def rowGo (m : Nat) : Nat → Nat → List Int
  | 0, _ => []
  | k + 1, f => (if f % 3 = 2 then ((1 + m / 324 : Nat) : Int) else 0) :: rowGo m k (f / 3)
def rowN (n : Int) : List Int := rowGo (n.natAbs % 97200) (n.natAbs % 97200 % 4 + 1) (n.natAbs % 97200 / 4)
theorem rowGo_ok (m : Nat) (hm : m < 97200) : ∀ k f, (rowGo m k f).length = k ∧ ∀ x ∈ rowGo m k f, 0 ≤ x ∧ x ≤ 300
  | 0, f => by simp [rowGo]
  | k + 1, f => by
    obtain ⟨h1, h2⟩ := rowGo_ok m hm k (f / 3)
    refine ⟨by simp [rowGo, h1], fun x hx => ?_⟩
    simp only [rowGo, List.mem_cons] at hx
    rcases hx with rfl | hx
    · split <;> omega
    · exact h2 x hx
theorem rowN_ok (n : Int) : RowOk (rowN n) ∧ rowN n ≠ [] := by
  obtain ⟨h1, h2⟩ := rowGo_ok (n.natAbs % 97200) (by omega) (n.natAbs % 97200 % 4 + 1) (n.natAbs % 97200 / 4)
  refine ⟨⟨by unfold rowN; omega, h2⟩, fun h => ?_⟩
  unfold rowN at h
  rw [h] at h1; simp at h1

abbrev RS := List Int × Nat × D
def rE (m : Nat) (s : RS) (i : Nat) : Except D RS := .ok (s.1 ++ [if s.2.1 % 3 = 2 then ((1 + m / 324 : Nat) : Int) else 0], s.2.1 / 3, .int (i : Int))
def rctx (n : Int) (m : Nat) (a : Addr) (row : List Int) (f : Nat) (k : D) : Ctx :=
  [(Str.ofString "n", .int n), (Str.ofString "m", .int (m : Int)), (Str.ofString "figures", .int (f : Int)), (Str.ofString "row", .own a (row.map .int)), (Str.ofString "k", k)]
theorem rE_run (m : Nat) : ∀ (as : List Nat) (s : RS), ∃ t u, runE (rE m) s as = .ok (s.1 ++ rowGo m as.length s.2.1, t, u)
  | [], s => ⟨s.2.1, s.2.2, by simp [runE, rowGo]⟩
  | i :: as, s => by
    obtain ⟨t, u, h⟩ := rE_run m as (s.1 ++ [if s.2.1 % 3 = 2 then ((1 + m / 324 : Nat) : Int) else 0], s.2.1 / 3, .int (i : Int))
    refine ⟨t, u, ?_⟩
    rw [runE]
    simp only [rE]
    rw [h]
    simp [rowGo]

theorem fmodN (a b : Nat) : ((a : Int)).fmod (b : Int) = ((a % b : Nat) : Int) := by rw [Int.fmod_eq_emod_of_nonneg _ (by omega)]; rfl
theorem fdivN (a b : Nat) : ((a : Int)).fdiv (b : Int) = ((a / b : Nat) : Int) := by rw [Int.fdiv_eq_ediv_of_nonneg _ (by omega)]; rfl

theorem law_row (w : World) (n : Int) : Fn w 2 (fnAt 26) [.int n] (encI (rowN n)) := by
  refine Fn.mk [Str.ofString "n"] [Str.ofString "m", Str.ofString "figures", Str.ofString "row", Str.ofString "k"] (by walk_at "mFn1") rfl (by decide +kernel) (by decide +kernel) fun L a_1 cd => ?_
  walk_at "mCtx"
  unfold rowN
  have f0 : Bin w 1 .Mod (.int (n.natAbs : Int)) (.int 97200) (.int ((n.natAbs % 97200 : Nat) : Int)) := Op.eq (Bin.modI (by decide)) (congrArg D.int (fmodN n.natAbs 97200))
  walk_at "asg"
  clear f0
  have hm : n.natAbs % 97200 < 97200 := Nat.mod_lt _ (by omega)
  generalize n.natAbs % 97200 = m at *
  have f1 : Bin w 1 .FloorDiv (.int (m : Int)) (.int 4) (.int ((m / 4 : Nat) : Int)) := Op.eq (Bin.divI (by decide) (by decide)) (congrArg D.int (fdivN m 4))
  walk_at "asg"
  obtain ⟨t, u, res⟩ := rE_run m (List.range (m % 4 + 1)) ([], m / 4, .undef)
  rw [List.length_range, List.nil_append] at res
  have hlen := (rowGo_ok m hm (m % 4 + 1) (m / 4)).1
  refine Exs.own (ρ' := fun a => rctx n m a [] (m / 4) .undef) (ρ'' := fun a => rctx n m a (rowGo m (m % 4 + 1) (m / 4)) t u) (ds := (rowGo m (m % 4 + 1) (m / 4)).map .int) (fun a => by unfold rctx; simp only [List.map_nil]; walk_at "mAt") (fun a => ?_) (fun a => by unfold rctx; walk_at "mAt") (fun a => by unfold rctx; walk_at "mAt") ?_
  · have key : ∀ {st : Stmt}, Ex w (fun b => False ∨ b = a) 1 (fnEnv (fnAt 26) L a_1 cd) (rctx n m a [] (m / 4) .undef) st (outE (fun s : RS => rctx n m a s.1 s.2.1 s.2.2) (runE (rE m) ([], m / 4, .undef) (List.range (m % 4 + 1)))) →
        Ex w (fun b => False ∨ b = a) 1 (fnEnv (fnAt 26) L a_1 cd) (rctx n m a [] (m / 4) .undef) st (.next (rctx n m a (rowGo m (m % 4 + 1) (m / 4)) t u)) := fun h => by rw [res] at h; exact h
    refine key (Ex.forG (ds := (List.range (m % 4 + 1)).map fun i : Nat => D.int (i : Int)) (.range (n := ((m % 4 + 1 : Nat) : Int)) rfl (.eq (by unfold rctx; walk_at "mEv") ?_) (by omega) (by rw [sizeLine_eq]; omega)) (ForD.fold (fun i : Nat => D.int (i : Int)) (fun s : RS => rctx n m a s.1 s.2.1 s.2.2) (rE m) (fun s l => s.1.length + l.length ≤ 4) (fun s c rest hI => ?_) _ ([], m / 4, .undef) ?_))
    · show D.int ((m : Int).fmod ((4 : Nat) : Int) + 1) = _
      rw [fmodN]; rfl
    · obtain ⟨row, f, kk⟩ := s
      simp only [List.length_cons] at hI
      refine ⟨rctx n m a row f (.int (c : Int)), (by unfold rctx; walk_at "mAt"), fun s' hs' => ⟨?_, ?_⟩, fun d hd => by cases hd⟩
      · cases hs'
        simp only [List.length_append, List.length_cons, List.length_nil]; omega
      cases hs'
      unfold rctx
      have hn : (row.map D.int).length ≤ 16777215 := by simp; omega
      have fd : Bin w 1 .FloorDiv (.int (f : Int)) (.int 3) (.int ((f / 3 : Nat) : Int)) := Op.eq (Bin.divI (by decide) (by decide)) (congrArg D.int (fdivN f 3))
      have fm : Bin w 1 .FloorDiv (.int (m : Int)) (.int 324) (.int ((m / 324 : Nat) : Int)) := Op.eq (Bin.divI (by decide) (by decide)) (congrArg D.int (fdivN m 324))
      have fr : Bin w 1 .Mod (.int (f : Int)) (.int 3) (.int ((f % 3 : Nat) : Int)) := Op.eq (Bin.modI (by decide)) (congrArg D.int (fmodN f 3))
      refine .inl ?_
      by_cases h2 : f % 3 = 2
      · simp only [if_pos h2]
        have fv : ∀ {e1 e2 : Expr} {p : Pos}, Ev w 1 (fnEnv (fnAt 26) L a_1 cd) [(Str.ofString "n", .int n)] (.BinOp e1 .Add e2 p) (.int 0) → True := fun _ => trivial
        refine Exs.cons (Ex.if_true (.eq (by walk_at "mTst") (by rw [h2]; rfl)) (Exs.cons (Ex.append (d := .int ((1 + m / 324 : Nat) : Int)) (by walk_at "mAt") (.eq (by walk_at "mEv") (by congr 1)) (by walk_at "mAt") (by walk_at "mNoOwn") (.inr rfl) hn) Exs.nil)) ?_
        walk_at "asg"
        rw [List.map_append, List.map_cons, List.map_nil]
        exact Exs.nil
      · simp only [if_neg h2]
        refine Exs.cons (Ex.if_false (.eq (by walk_at "mTst") (by simp; omega)) (Exs.cons (Ex.append (by walk_at "mAt") (by walk_at "mEv") (by walk_at "mAt") (by walk_at "mNoOwn") (.inr rfl) hn) Exs.nil)) ?_
        walk_at "asg"
        rw [List.map_append, List.map_cons, List.map_nil]
        exact Exs.nil
    · simp; omega
  · walk_at "ret"
theorem c_row (w : World) {k : Nat} (hk : 2 ≤ k) (n : Int) : FnN w k (Str.ofString "_law_row") [.int n] (encI (rowN n)) := ((law_row w n).at (by decide) rfl).mono_k hk

/-! ## _law_joined -/
def joined (one other : List (List Int)) : List (List Int) :=
  if 0 < front other then other else if one.getLast? = some [0] then one.dropLast ++ other else one ++ other
theorem cmI (w : World) {k : Nat} (r s : List Int) : Cmp w k .Eq (encI r) (encI s) (r == s) := .eq (Cmp.eqL (n := 1) (okDs_ints 1 r s) (by omega)) (by rw [← eqDs_ints])
theorem cmN (w : World) {k : Nat} (r s : List Int) : Cmp w k .NotEq (encI r) (encI s) (r != s) := .eq (Cmp.neL (n := 1) (okDs_ints 1 r s) (by omega)) (by rw [eqDs_ints]; rfl)
theorem itLast (w : World) {k : Nat} {α : Type} (f : α → D) (r : List α) (x : α) (h : r.length ≤ 1000000) : Itm w k (.list ((r ++ [x]).map f)) (.int (-1)) (f x) :=
  Itm.listNeg (by omega) (by simp; omega) (by rw [show ((-1 : Int) + (((r ++ [x]).map f).length : Int)).toNat = r.length by simp; omega]; simp) (by omega)
theorem slInit (w : World) {k : Nat} {α : Type} (f : α → D) (r : List α) (h : r.length ≤ 1000000) : Sli w k (.list (r.map f)) Option.none (some (-1)) Option.none (.list (r.dropLast.map f)) := by
  have := Sli.list (w := w) (k := k) (ds := r.map f) (lo := Option.none) (hi := some (-1)) (by simp; omega)
  rw [cut_neg_to, ← List.map_dropLast] at this
  exact this
theorem slLast (w : World) {k : Nat} {α : Type} (f : α → D) (r : List α) (h : r.length ≤ 1000000) : Sli w k (.list (r.map f)) (some (-1)) Option.none Option.none (.list ((r.drop (r.length - 1)).map f)) := by
  have := Sli.list (w := w) (k := k) (ds := r.map f) (lo := some (-1)) (hi := Option.none) (by simp; omega)
  rw [cut_neg_from, List.length_map, ← List.map_drop] at this
  exact this
theorem adR (w : World) {k : Nat} {α : Type} (f : α → D) (r s : List α) (h : r.length + s.length ≤ 1000000) : Bin w k .Add (.list (r.map f)) (.list (s.map f)) (.list ((r ++ s).map f)) := by
  have := Bin.addL (w := w) (k := k) (as := r.map f) (bs := s.map f) (by simp; omega)
  rw [← List.map_append] at this
  exact this

theorem law_joined (w : World) (one other : List (List Int)) (h1 : one ≠ []) (l1 : one.length ≤ 500) (l2 : other.length ≤ 500) : Fn w 3 (fnAt 32) [encR one, encR other] (encR (joined one other)) := by
  refine Fn.mk [Str.ofString "one", Str.ofString "other"] [] (by walk_at "mFn2") rfl (by decide +kernel) (by decide +kernel) fun L a cd => ?_
  walk_at "mCtx"
  have c1 := c_front w (k := 2) (Nat.le_refl _) other (by omega)
  unfold joined
  by_cases hf : 0 < front other
  · rw [if_pos hf]
    refine Exs.ret (Ex.if_true (.eq (by walk_at "mTst") (by simpa using hf)) ?_)
    walk_at "ret"
  rw [if_neg hf]
  refine Exs.cons (Ex.if_false (.eq (by walk_at "mTst") (by simp; omega)) Exs.nil) ?_
  obtain ⟨r, x, rfl⟩ := getLast_snoc h1
  simp only [List.length_append, List.length_cons, List.length_nil] at l1
  have it := itLast w (k := 2) encI r x (by omega)
  have cm : Cmp w 2 .Eq (encI x) (.list [.int 0]) (x == [0]) := cmI w x [0]
  have sl := slInit w (k := 2) encI (r ++ [x]) (by simp; omega)
  by_cases hx : x = [0]
  · rw [if_pos (by simp [hx])]
    have ad := adR w (k := 2) encI ((r ++ [x]).dropLast) other (by simp; omega)
    refine Exs.ret (Ex.if_true (.eq (by walk_at "mTst") (by simp [hx])) ?_)
    walk_at "ret"
  · rw [if_neg (by simp [hx])]
    have ad := adR w (k := 2) encI (r ++ [x]) other (by simp; omega)
    refine Exs.cons (Ex.if_false (.eq (by walk_at "mTst") (by simp [hx])) Exs.nil) ?_
    walk_at "ret"
theorem c_joined (w : World) {k : Nat} (hk : 3 ≤ k) (one other : List (List Int)) (h1 : one ≠ []) (l1 : one.length ≤ 500) (l2 : other.length ≤ 500) : FnN w k (Str.ofString "_law_joined") [encR one, encR other] (encR (joined one other)) := ((law_joined w one other h1 l1 l2).at (by decide) rfl).mono_k hk

/-! ## _law_names -/
def nmStep (s : Nat × List (List Int)) (row : List Int) : Nat × List (List Int) :=
  if row = [0, 0, 0] then (s.1 + 1, s.2) else if row ≠ [0] ∧ row ≠ [0, 0] then (if 0 < s.1 then (s.1 - 1, s.2) else (s.1, row :: s.2)) else s
def namesN (rows : List (List Int)) (slashes : Nat) : List (List Int) :=
  let s := rows.reverse.foldl nmStep (0, [])
  if 0 < slashes then s.2 else if List.replicate s.1 [0, 0, 0] ++ s.2 = [] then [[0, 0]] else List.replicate s.1 [0, 0, 0] ++ s.2
abbrev MS := (Nat × List (List Int)) × D
def mE (s : MS) (row : List Int) : Except D MS := .ok (nmStep s.1 row, encI row)
def mctx (rows : List (List Int)) (sl : Nat) (s : MS) : Ctx :=
  [(Str.ofString "rows", encR rows), (Str.ofString "slashes", .int (sl : Int)), (Str.ofString "debts", .int (s.1.1 : Int)), (Str.ofString "kept", encR s.1.2), (Str.ofString "row", s.2)]
theorem mE_run : ∀ (as : List (List Int)) (s : MS), ∃ u, runE mE s as = .ok (as.foldl nmStep s.1, u)
  | [], s => ⟨s.2, rfl⟩
  | r :: as, s => by
    obtain ⟨u, h⟩ := mE_run as (nmStep s.1 r, encI r)
    exact ⟨u, by rw [runE]; simp only [mE]; rw [h]; rfl⟩
theorem nmStep_inv (s : Nat × List (List Int)) (row : List Int) : (nmStep s row).1 + (nmStep s row).2.length ≤ s.1 + s.2.length + 1 := by
  unfold nmStep
  split
  · simp; omega
  · split
    · split
      · simp; omega
      · simp; omega
    · omega
theorem nmFold_inv : ∀ (as : List (List Int)) (s : Nat × List (List Int)), (as.foldl nmStep s).1 + (as.foldl nmStep s).2.length ≤ s.1 + s.2.length + as.length
  | [], s => by simp
  | r :: as, s => by
    have h1 := nmStep_inv s r
    have h2 := nmFold_inv as (nmStep s r)
    simp only [List.foldl_cons, List.length_cons]
    omega

theorem law_names (w : World) (rows : List (List Int)) (sl : Nat) (l1 : rows.length ≤ 500) : Fn w 2 (fnAt 33) [encR rows, .int (sl : Int)] (encR (namesN rows sl)) := by
  refine Fn.mk [Str.ofString "rows", Str.ofString "slashes"] [Str.ofString "debts", Str.ofString "kept", Str.ofString "row"] (by walk_at "mFn2") rfl (by decide +kernel) (by decide +kernel) fun L a cd => ?_
  walk_at "mCtx"
  walk_at "asg"
  walk_at "asg"
  have rv : Sli w 1 (encR rows) Option.none Option.none (some (-1)) (encR rows.reverse) := by
    have := Sli.step (w := w) (k := 1) (ds := rows.map encI) (lo := Option.none) (hi := Option.none) (c := -1) (by decide) (by simp; omega)
    rw [pickL_rev, ← List.map_reverse] at this
    exact this
  obtain ⟨u, res⟩ := mE_run rows.reverse ((0, []), .undef)
  have key : ∀ {st : Stmt}, Ex w (fun _ => False) 1 (fnEnv (fnAt 33) L a cd) (mctx rows sl ((0, []), .undef)) st (outE (mctx rows sl) (runE mE ((0, []), .undef) rows.reverse)) →
      Ex w (fun _ => False) 1 (fnEnv (fnAt 33) L a cd) (mctx rows sl ((0, []), .undef)) st (.next (mctx rows sl (rows.reverse.foldl nmStep (0, []), u))) := fun h => by rw [res] at h; exact h
  refine Exs.cons (ρ' := mctx rows sl (rows.reverse.foldl nmStep (0, []), u)) ?_ ?_
  · refine key (Ex.for (dv := encR rows.reverse) (by unfold mctx; walk_at "mEv") (its_list (by rw [sizeLine_eq]; simp; omega)) (ForD.fold encI (mctx rows sl) mE (fun s l => s.1.1 + s.1.2.length + l.length ≤ 500) (fun s row rest hI => ?_) rows.reverse ((0, []), .undef) (by simp; omega)))
    obtain ⟨⟨d, kept⟩, x⟩ := s
    refine ⟨mctx rows sl ((d, kept), encI row), (by unfold mctx; walk_at "mAt"), fun s' hs' => ⟨?_, .inl ?_⟩, fun d hd => by cases hd⟩
    · cases hs'
      have := nmStep_inv (d, kept) row
      simp only [List.length_cons] at hI this ⊢
      omega
    cases hs'
    simp only [List.length_cons] at hI
    have m1 : Cmp w 1 .Eq (encI row) (.list [.int 0, .int 0, .int 0]) (row == [0, 0, 0]) := cmI w row [0, 0, 0]
    have m2 : Cmp w 1 .NotEq (encI row) (.list [.int 0]) (row != [0]) := cmN w row [0]
    have m3 : Cmp w 1 .NotEq (encI row) (.list [.int 0, .int 0]) (row != [0, 0]) := cmN w row [0, 0]
    have ad : Bin w 1 .Add (.list [encI row]) (encR kept) (encR (row :: kept)) := adR w encI [row] kept (by simp; omega)
    unfold mctx nmStep
    dsimp only
    by_cases h1 : row = [0, 0, 0]
    · rw [if_pos h1]
      refine Exs.cons (Ex.if_true (.eq (by walk_at "mTst") (by simp [h1])) (Exs.cons (Ex.assign (.eq (by walk_at "mEv") (d' := .int ((d + 1 : Nat) : Int)) (by rfl)) (by walk_at "mAt")) Exs.nil)) Exs.nil
    rw [if_neg h1]
    by_cases h2 : row ≠ [0] ∧ row ≠ [0, 0]
    · rw [if_pos h2]
      by_cases h3 : 0 < d
      · rw [if_pos h3]
        refine Exs.cons (Ex.if_false (.eq (by walk_at "mTst") (by simp [h1])) ?_) Exs.nil
        refine Exs.cons (Ex.if_true (Tst.and_true (.eq (by walk_at "mTst") (by simp [h2.1])) (Tst.last (.eq (by walk_at "mTst") (by simp [h2.2])))) ?_) Exs.nil
        refine Exs.cons (Ex.if_true (.eq (by walk_at "mTst") (by simpa using h3)) (Exs.cons (Ex.assign (.eq (by walk_at "mEv") (d' := .int ((d - 1 : Nat) : Int)) (congrArg D.int (by omega))) (by walk_at "mAt")) Exs.nil)) Exs.nil
      · rw [if_neg h3]
        refine Exs.cons (Ex.if_false (.eq (by walk_at "mTst") (by simp [h1])) ?_) Exs.nil
        refine Exs.cons (Ex.if_true (Tst.and_true (.eq (by walk_at "mTst") (by simp [h2.1])) (Tst.last (.eq (by walk_at "mTst") (by simp [h2.2])))) ?_) Exs.nil
        refine Exs.cons (Ex.if_false (.eq (by walk_at "mTst") (by simp; omega)) (Exs.cons (Ex.assign (by walk_at "mEv") (by walk_at "mAt")) Exs.nil)) Exs.nil
    · rw [if_neg h2]
      refine Exs.cons (Ex.if_false (.eq (by walk_at "mTst") (by simp [h1])) ?_) Exs.nil
      refine Exs.cons (Ex.if_false ?_ Exs.nil) Exs.nil
      by_cases h4 : row = [0]
      · exact Tst.and_false (.eq (by walk_at "mTst") (by simp [h4]))
      · have h5 : row = [0, 0] := Classical.byContradiction fun h => h2 ⟨h4, h⟩
        exact Tst.and_true (.eq (by walk_at "mTst") (by simp [h4])) (Tst.last (.eq (by walk_at "mTst") (by simp [h5])))
  · have fi := nmFold_inv rows.reverse (0, [])
    unfold namesN mctx
    generalize rows.reverse.foldl nmStep (0, []) = s at *
    obtain ⟨d, kept⟩ := s
    simp only [List.length_nil, List.length_reverse] at fi
    dsimp only
    by_cases h1 : 0 < sl
    · rw [if_pos h1]
      refine Exs.ret (Ex.if_true (.eq (by walk_at "mTst") (by simpa using h1)) ?_)
      walk_at "ret"
    rw [if_neg h1]
    refine Exs.cons (Ex.if_false (.eq (by walk_at "mTst") (by simp; omega)) Exs.nil) ?_
    have fl : (List.replicate ((d : Int).toNat) [D.list [.int 0, .int 0, .int 0]]).flatten = (List.replicate d [0, 0, 0]).map encI := by simp [encI]
    have ad := adR w (k := 1) encI (List.replicate d [0, 0, 0]) kept (by simp; omega)
    have tr : Tru w 1 (.list ((List.replicate d [0, 0, 0] ++ kept).map encI)) (!((List.replicate d [0, 0, 0] ++ kept).map encI).isEmpty) := Tru.list (by simp; omega)
    by_cases h2 : List.replicate d [0, 0, 0] ++ kept = []
    · rw [if_pos h2]
      rw [h2] at tr
      refine Exs.ret (Ex.ret_some (Ev.or_false (Ev.binop (.eq (Ev.listmul (x := (d : Int)) (by walk_at "mEvs") (by walk_at "mEv") (by omega) (by omega) (by simp; omega) (by simp)) (congrArg D.list fl)) (by walk_at "mEv") (by rw [h2] at ad; exact ad)) tr (Ev.eq (d := .list [.list [.int 0, .int 0]]) (by walk_at "mEv") rfl)))
    · rw [if_neg h2]
      refine Exs.ret (Ex.ret_some (Ev.or_true (Ev.binop (.eq (Ev.listmul (x := (d : Int)) (by walk_at "mEvs") (by walk_at "mEv") (by omega) (by omega) (by simp; omega) (by simp)) (congrArg D.list fl)) (by walk_at "mEv") ad) (by
        have : (!((List.replicate d [0, 0, 0] ++ kept).map encI).isEmpty) = true := by simpa [List.isEmpty_iff] using h2
        rw [this] at tr
        exact tr)))
theorem c_names (w : World) {k : Nat} (hk : 2 ≤ k) (rows : List (List Int)) (sl : Nat) (l1 : rows.length ≤ 500) : FnN w k (Str.ofString "_law_names") [encR rows, .int (sl : Int)] (encR (namesN rows sl)) := ((law_names w rows sl l1).at (by decide) rfl).mono_k hk

/-! ## _law_halves -/
def stripZ (rows : List (List Int)) : List (List Int) := (rows.reverse.dropWhile (· == [0])).reverse
def halves (rows : List (List Int)) : List UInt8 × List UInt8 :=
  (spellB (if stripZ rows.dropLast = [] then List.replicate rows.length [0] else stripZ rows.dropLast), spellB (rows.drop (rows.length - 1)))
theorem RowsOk.sub {r s : List (List Int)} (h : RowsOk r) (hl : s.length ≤ r.length) (hm : ∀ x ∈ s, x ∈ r) : RowsOk s := ⟨Nat.le_trans hl h.1, fun x hx => h.2 x (hm x hx)⟩
theorem stripZ_sub (rows : List (List Int)) : (stripZ rows).length ≤ rows.length ∧ ∀ x ∈ stripZ rows, x ∈ rows := by
  unfold stripZ
  refine ⟨by rw [List.length_reverse]; exact Nat.le_trans (List.dropWhile_suffix _).length_le (by simp), fun x hx => ?_⟩
  have := (List.dropWhile_suffix _).subset (List.mem_reverse.1 hx)
  simpa using this
theorem rowsOk_rep (n : Nat) (h : n ≤ 40) : RowsOk (List.replicate n [0]) := ⟨by simpa using h, fun x hx => by
  rw [(List.mem_replicate.1 hx).2]; exact ⟨by simp, by simp⟩⟩
theorem rev_cons_snoc {α : Type} (x : α) (r : List α) : (x :: r).reverse = r.reverse ++ [x] := by simp
theorem drop_take_while {α : Type} (q : α → Bool) : ∀ r : List α, (r.drop (r.takeWhile q).length) = r.dropWhile q ∧ (∀ i < (r.takeWhile q).length, ∃ x, r[i]? = some x ∧ q x = true)
  | [] => by simp
  | x :: r => by
    obtain ⟨h1, h2⟩ := drop_take_while q r
    by_cases hx : q x = true
    · simp only [List.takeWhile_cons, hx, if_true, List.dropWhile_cons, List.length_cons, List.drop_succ_cons]
      refine ⟨h1, fun i hi => ?_⟩
      cases i with
      | zero => exact ⟨x, rfl, hx⟩
      | succ i => simpa using h2 i (by omega)
    · simp [List.takeWhile_cons, hx, List.dropWhile_cons]

theorem law_halves (w : World) (rows : List (List Int)) (hr : RowsOk rows) : Fn w 4 (fnAt 34) [encR rows] (.tuple [.bytes (halves rows).1, .bytes (halves rows).2]) := by
  refine Fn.mk [Str.ofString "rows"] [Str.ofString "head"] (by walk_at "mFn1") rfl (by decide +kernel) (by decide +kernel) fun L a cd => ?_
  walk_at "mCtx"
  have l1 := hr.1
  have sl := slInit w (k := 3) encI rows (by omega)
  walk_at "asg"
  clear sl
  obtain ⟨q1, q2⟩ := drop_take_while (· == [0]) rows.dropLast.reverse
  have hd0 : rows.dropLast.reverse.length ≤ 40 := by simp; omega
  have e0 : rows.dropLast = (rows.dropLast.reverse.drop 0).reverse := by simp
  have ez : stripZ rows.dropLast = (rows.dropLast.reverse.dropWhile (· == [0])).reverse := rfl
  obtain ⟨z1, z2⟩ := stripZ_sub rows.dropLast
  have okz : RowsOk (stripZ rows.dropLast) := hr.sub (Nat.le_trans z1 (by simp)) (fun x hx => List.dropLast_subset _ (z2 x hx))
  unfold halves
  generalize stripZ rows.dropLast = st at *
  rw [e0]
  generalize rows.dropLast.reverse = r at *
  generalize hm : (r.takeWhile (· == [0])).length = m at *
  have tr (i : Nat) : Tru w 3 (.list ((r.drop i).reverse.map encI)) (!((r.drop i).reverse.map encI).isEmpty) := Tru.list (by simp; omega)
  refine Exs.cons (ρ' := [(Str.ofString "rows", encR rows), (Str.ofString "head", encR st)]) ?_ ?_
  · rw [ez, ← q1]
    refine Ex.whileN (fun i => [(Str.ofString "rows", encR rows), (Str.ofString "head", encR (r.drop i).reverse)]) m (fun i hi => ?_) ?_
    · obtain ⟨x, x1, x2⟩ := q2 i hi
      have hil : i < r.length := by
        rcases Nat.lt_or_ge i r.length with h | h
        · exact h
        · rw [List.getElem?_eq_none h] at x1; cases x1
      have ed : (r.drop i).reverse = (r.drop (i + 1)).reverse ++ [x] := by
        rw [List.drop_eq_getElem_cons hil, rev_cons_snoc]
        rw [List.getElem?_eq_getElem hil] at x1
        rw [Option.some.inj x1]
      have tri := tr i
      rw [ed] at tri ⊢
      have it := itLast w (k := 3) encI (r.drop (i + 1)).reverse x (by simp; omega)
      have cm : Cmp w 3 .Eq (encI x) (.list [.int 0]) (x == [0]) := cmI w x [0]
      have sl := slInit w (k := 3) encI ((r.drop (i + 1)).reverse ++ [x]) (by simp; omega)
      refine ⟨Tst.and_true (.eq (by walk_at "mTst") (by simp)) (Tst.last (.eq (by walk_at "mTst") x2)), ?_⟩
      refine Exs.cons (Ex.assign (.eq (by walk_at "mEv") (by rw [List.dropLast_concat])) (by walk_at "mAt")) Exs.nil
    · have trm := tr m
      cases hdm : r.drop m with
      | nil =>
        rw [hdm] at trm
        exact Tst.and_false (.eq (by walk_at "mTst") (by rfl))
      | cons x rest =>
        rw [hdm] at trm
        rw [rev_cons_snoc] at trm ⊢
        have hx : (x == [0]) = false := by
          rw [q1] at hdm
          have := List.head?_dropWhile_not (· == [0]) r
          rw [hdm] at this
          simpa using this
        have it := itLast w (k := 3) encI rest.reverse x (by have := congrArg List.length hdm; simp at this ⊢; omega)
        have cm : Cmp w 3 .Eq (encI x) (.list [.int 0]) (x == [0]) := cmI w x [0]
        exact Tst.and_true (.eq (by walk_at "mTst") (by simp)) (Tst.last (.eq (by walk_at "mTst") hx))
  · have trs : Tru w 3 (encR st) (!(st.map encI).isEmpty) := Tru.list (by have := okz.1; simp; omega)
    have sl := slLast w (k := 3) encI rows (by omega)
    have ok2 : RowsOk (rows.drop (rows.length - 1)) := hr.sub (by simp) (fun x hx => List.mem_of_mem_drop hx)
    have c2 := c_spell w (k := 3) (Nat.le_refl _) (rows.drop (rows.length - 1)) 1 ok2 (.inl rfl)
    have fl : (List.replicate ((rows.length : Int).toNat) [D.list [.int 0]]).flatten = (List.replicate rows.length [0]).map encI := by simp [encI]
    by_cases h : st = []
    · rw [if_pos h]
      subst h
      have c1 := c_spell w (k := 3) (Nat.le_refl _) (List.replicate rows.length [0]) 1 (rowsOk_rep _ l1) (.inl rfl)
      have orr : Ev w 3 (fnEnv (fnAt 34) L a cd) [(Str.ofString "rows", encR rows), (Str.ofString "head", encR [])] (.Constant .none 0 ⟨0, 0, 0, 0⟩) .none := by walk_at "mEv"
      refine Exs.ret (Ex.ret_some (Ev.tuple (Evs.cons (Ev.call (Evs.cons (Ev.or_false (by walk_at "mEv") trs (.eq (Ev.listmul (x := (rows.length : Int)) (by walk_at "mEvs") ?_ (by omega) (by omega) (by simp; omega) (by simp)) (congrArg D.list fl))) (Evs.cons (by walk_at "mEv") Evs.nil)) c1) (Evs.cons (by walk_at "mEv") Evs.nil)) (by walk_at "mSide")))
      have ln := Op.lenL (w := w) (k := 3) (ds := rows.map encI) (by simp; omega)
      rw [List.length_map] at ln
      walk_at "mEv"
    · rw [if_neg h]
      have c1 := c_spell w (k := 3) (Nat.le_refl _) st 1 okz (.inl rfl)
      rw [show (!(st.map encI).isEmpty) = true by simpa [List.isEmpty_iff] using h] at trs
      refine Exs.ret (Ex.ret_some (Ev.tuple (Evs.cons (Ev.call (Evs.cons (Ev.or_true (by walk_at "mEv") trs) (Evs.cons (by walk_at "mEv") Evs.nil)) c1) (Evs.cons (by walk_at "mEv") Evs.nil)) (by walk_at "mSide")))
theorem c_halves (w : World) {k : Nat} (hk : 4 ≤ k) (rows : List (List Int)) (hr : RowsOk rows) : FnN w k (Str.ofString "_law_halves") [encR rows] (.tuple [.bytes (halves rows).1, .bytes (halves rows).2]) := ((law_halves w rows hr).at (by decide) rfl).mono_k hk

/-! ## _law_ending -/
def ending (rows : List (List Int)) : List UInt8 × List UInt8 :=
  if 0 < (rows.getLastD []).dropLast.sum then (spellB (rows.dropLast ++ [(rows.getLastD []).dropLast]), spellB [[0, (rows.getLastD []).getLastD 0]]) else (spellB rows, [])

theorem law_ending (w : World) (rows : List (List Int)) (h0 : rows ≠ []) (hr : RowsOk rows) : Fn w 4 (fnAt 35) [encR rows] (.tuple [.bytes (ending rows).1, .bytes (ending rows).2]) := by
  refine Fn.mk [Str.ofString "rows"] [Str.ofString "last"] (by walk_at "mFn1") rfl (by decide +kernel) (by decide +kernel) fun L a cd => ?_
  walk_at "mCtx"
  obtain ⟨r, x, rfl⟩ := getLast_snoc h0
  have l1 := hr.1
  have lr : r.length ≤ 40 := by simp at l1; omega
  have okx := hr.2 x (by simp)
  have it := itLast w (k := 3) encI r x (by omega)
  walk_at "asg"
  have sl := slInit w (k := 3) D.int x (by have := okx.1; omega)
  have su : Op w 3 (fun vs => call (.builtin "sum") vs) [.list (x.dropLast.map .int)] (.int x.dropLast.sum) := Op.sumI
  unfold ending
  rw [show (r ++ [x]).getLastD [] = x by simp]
  by_cases h : 0 < x.dropLast.sum
  · rw [if_pos h]
    have hx : x ≠ [] := by intro e; subst e; simp at h
    obtain ⟨y, z, rfl⟩ := getLast_snoc hx
    rw [List.dropLast_concat] at *
    have hz := okx.2 z (by simp)
    have it2 := itLast w (k := 3) D.int y z (by have := okx.1; simp at this; omega)
    have sl2 := slInit w (k := 3) encI (r ++ [y ++ [z]]) (by simp; omega)
    rw [List.dropLast_concat] at sl2 ⊢
    have ad : Bin w 3 .Add (.list (r.map encI)) (.list [.list (y.map .int)]) (encR (r ++ [y])) := adR w encI r [y] (by simp; omega)
    have ok1 : RowsOk (r ++ [y]) := by
      refine ⟨by simp at l1 ⊢; omega, fun v hv => ?_⟩
      rcases List.mem_append.1 hv with hv | hv
      · exact hr.2 v (List.mem_append_left _ hv)
      · rw [List.mem_singleton.1 hv]
        exact ⟨by have := okx.1; simp at this; omega, fun n hn => okx.2 n (List.mem_append_left _ hn)⟩
    have ok2 : RowsOk [[0, z]] := ⟨by simp, fun v hv => by
      rw [List.mem_singleton.1 hv]; exact ⟨by simp, fun n hn => by
        rcases List.mem_cons.1 hn with rfl | hn
        · omega
        · rw [List.mem_singleton.1 hn]; exact hz⟩⟩
    have c1 := c_spell w (k := 3) (Nat.le_refl _) (r ++ [y]) 1 ok1 (.inl rfl)
    have c2 : FnN w 3 (Str.ofString "_law_spell") [.list [.list [.int 0, .int z]], .int 1] (.bytes (spellB [[0, z]])) := c_spell w (k := 3) (Nat.le_refl _) [[0, z]] 1 ok2 (.inl rfl)
    rw [show (y ++ [z]).getLastD 0 = z by simp]
    refine Exs.ret (Ex.if_true (.eq (by walk_at "mTst") (by simpa using h)) ?_)
    walk_at "ret"
  · rw [if_neg h]
    have c1 := c_spell w (k := 3) (Nat.le_refl _) (r ++ [x]) 1 hr (.inl rfl)
    refine Exs.cons (Ex.if_false (.eq (by walk_at "mTst") (by simp; omega)) Exs.nil) ?_
    walk_at "ret"
theorem c_ending (w : World) {k : Nat} (hk : 4 ≤ k) (rows : List (List Int)) (h0 : rows ≠ []) (hr : RowsOk rows) : FnN w k (Str.ofString "_law_ending") [encR rows] (.tuple [.bytes (ending rows).1, .bytes (ending rows).2]) := ((law_ending w rows h0 hr).at (by decide) rfl).mono_k hk

/-! ## _law_two -/
theorem pickL_map {α β : Type} (f : α → β) (l : List α) (lo hi st : Option Int) : pickL (l.map f) lo hi st = (pickL l lo hi st).map f := by
  unfold pickL
  rw [List.length_map, List.map_filterMap]
  congr 1
  funext i
  rw [List.getElem?_map]
theorem pickL_len {α : Type} (l : List α) (a : Nat) (ha : a ≤ 1) : (pickL l (some (a : Int)) (some 6) (some 2)).length ≤ 3 := by
  unfold pickL
  refine Nat.le_trans (List.length_filterMap_le _ _) ?_
  unfold sliceRange sliceBounds
  simp only [Option.getD_some]
  split <;> simp <;> omega

def sigma (script : List Int) : Nat := script.sum.natAbs % 27
def onesN (script : List Int) : List (List Int) := let r := (pickL script (some 0) (some 6) (some 2)).map rowN; if r = [] then [[5, 0]] else r
def othersN (script : List Int) : List (List Int) := let r := (pickL script (some 1) (some 6) (some 2)).map rowN; if r = [] then [[0, 18]] else r
def oneN (script : List Int) : List (List Int) := List.replicate (sigma script % 3) [0] ++ onesN script
def otherN (script : List Int) : List (List Int) := List.replicate (sigma script / 3 % 3) [0] ++ (onesN script).take (sigma script / 9) ++ othersN script

theorem law_two (w : World) (script : List Int) (hl : script.length ≤ 63) : Fn w 3 (fnAt 27) [encI script] (.list [encR (oneN script), encR (otherN script)]) := by
  refine Fn.mk [Str.ofString "script"] [Str.ofString "s", Str.ofString "ones", Str.ofString "others"] (by walk_at "mFn1") rfl (by decide +kernel) (by decide +kernel) fun L a cd => ?_
  walk_at "mCtx"
  have f0 : Bin w 2 .Mod (.int (script.sum.natAbs : Int)) (.int 27) (.int ((sigma script : Nat) : Int)) := Op.eq (Bin.modI (by decide)) (congrArg D.int (fmodN script.sum.natAbs 27))
  have hs : sigma script < 27 := Nat.mod_lt _ (by omega)
  walk_at "asg"
  have ps (a : Nat) : Sli w 2 (encI script) (some (a : Int)) (some 6) (some 2) (.list ((pickL script (some (a : Int)) (some 6) (some 2)).map .int)) := by
    rw [← pickL_map]
    exact Sli.step (by decide) (by simp; omega)
  have p0 : Sli w 2 (encI script) (some 0) (some 6) (some 2) (.list ((pickL script (some 0) (some 6) (some 2)).map .int)) := ps 0
  have p1 : Sli w 2 (encI script) (some 1) (some 6) (some 2) (.list ((pickL script (some 1) (some 6) (some 2)).map .int)) := ps 1
  have k0 : (pickL script (some 0) (some 6) (some 2)).length ≤ 3 := pickL_len script 0 (by omega)
  have k1 : (pickL script (some 1) (some 6) (some 2)).length ≤ 3 := pickL_len script 1 (by omega)
  have n0 : (onesN script).length ≤ 3 := by unfold onesN; dsimp only; split <;> simp; exact k0
  have n1 : (othersN script).length ≤ 3 := by unfold othersN; dsimp only; split <;> simp; exact k1
  refine Exs.cons (Ex.assign (d := encR (onesN script)) ?_ (by walk_at "mAt")) ?_
  · have tr : Tru w 2 (encR ((pickL script (some 0) (some 6) (some 2)).map rowN)) (!(((pickL script (some 0) (some 6) (some 2)).map rowN).map encI).isEmpty) := Tru.list (by simp; omega)
    have ee : encR ((pickL script (some 0) (some 6) (some 2)).map rowN) = .list ((pickL script (some 0) (some 6) (some 2)).map fun n => encI (rowN n)) := by simp [encR, Function.comp_def]
    unfold onesN
    dsimp only
    by_cases g : (pickL script (some 0) (some 6) (some 2)).map rowN = []
    · rw [if_pos g]
      rw [g] at tr
      refine Ev.or_false (.eq (Ev.comp0 D.int inj_int _ _ (by walk_at "mEv") (its_list (by rw [sizeLine_eq]; simp; omega)) (FreeOk.none (by decide) (by decide) (by decide)) (fun n hn C => ?_)) (ee.symm.trans (by rw [g]))) tr (Ev.eq (d := .list [.list [.int 5, .int 0]]) (by walk_at "mEv") rfl)
      have c1 := c_row w (k := 2) (Nat.le_refl _) n
      walk_at "mEv"
    · rw [if_neg g]
      rw [show (!(((pickL script (some 0) (some 6) (some 2)).map rowN).map encI).isEmpty) = true by simpa [List.isEmpty_iff] using g] at tr
      refine Ev.or_true (.eq (Ev.comp0 D.int inj_int _ _ (by walk_at "mEv") (its_list (by rw [sizeLine_eq]; simp; omega)) (FreeOk.none (by decide) (by decide) (by decide)) (fun n hn C => ?_)) ee.symm) tr
      have c1 := c_row w (k := 2) (Nat.le_refl _) n
      walk_at "mEv"
  refine Exs.cons (Ex.assign (d := encR (othersN script)) ?_ (by walk_at "mAt")) ?_
  · have tr : Tru w 2 (encR ((pickL script (some 1) (some 6) (some 2)).map rowN)) (!(((pickL script (some 1) (some 6) (some 2)).map rowN).map encI).isEmpty) := Tru.list (by simp; omega)
    have ee : encR ((pickL script (some 1) (some 6) (some 2)).map rowN) = .list ((pickL script (some 1) (some 6) (some 2)).map fun n => encI (rowN n)) := by simp [encR, Function.comp_def]
    unfold othersN
    dsimp only
    by_cases g : (pickL script (some 1) (some 6) (some 2)).map rowN = []
    · rw [if_pos g]
      rw [g] at tr
      refine Ev.or_false (.eq (Ev.comp0 D.int inj_int _ _ (by walk_at "mEv") (its_list (by rw [sizeLine_eq]; simp; omega)) (FreeOk.none (by decide) (by decide) (by decide)) (fun n hn C => ?_)) (ee.symm.trans (by rw [g]))) tr (Ev.eq (d := .list [.list [.int 0, .int 18]]) (by walk_at "mEv") rfl)
      have c1 := c_row w (k := 2) (Nat.le_refl _) n
      walk_at "mEv"
    · rw [if_neg g]
      rw [show (!(((pickL script (some 1) (some 6) (some 2)).map rowN).map encI).isEmpty) = true by simpa [List.isEmpty_iff] using g] at tr
      refine Ev.or_true (.eq (Ev.comp0 D.int inj_int _ _ (by walk_at "mEv") (its_list (by rw [sizeLine_eq]; simp; omega)) (FreeOk.none (by decide) (by decide) (by decide)) (fun n hn C => ?_)) ee.symm) tr
      have c1 := c_row w (k := 2) (Nat.le_refl _) n
      walk_at "mEv"
  unfold oneN otherN
  generalize onesN script = ones at *
  generalize othersN script = others at *
  generalize sigma script = s at *
  have f1 : Bin w 2 .Mod (.int (s : Int)) (.int 3) (.int ((s % 3 : Nat) : Int)) := Op.eq (Bin.modI (by decide)) (congrArg D.int (fmodN s 3))
  have f2 : Bin w 2 .FloorDiv (.int (s : Int)) (.int 3) (.int ((s / 3 : Nat) : Int)) := Op.eq (Bin.divI (by decide) (by decide)) (congrArg D.int (fdivN s 3))
  have f3 : Bin w 2 .Mod (.int ((s / 3 : Nat) : Int)) (.int 3) (.int ((s / 3 % 3 : Nat) : Int)) := Op.eq (Bin.modI (by decide)) (congrArg D.int (fmodN (s / 3) 3))
  have f4 : Bin w 2 .FloorDiv (.int (s : Int)) (.int 9) (.int ((s / 9 : Nat) : Int)) := Op.eq (Bin.divI (by decide) (by decide)) (congrArg D.int (fdivN s 9))
  have fl (n : Nat) : (List.replicate ((n : Int).toNat) [D.list [.int 0]]).flatten = (List.replicate n [0]).map encI := by simp [encI]
  have sl : Sli w 2 (encR ones) Option.none (some ((s / 9 : Nat) : Int)) Option.none (encR (ones.take (s / 9))) := by
    have := Sli.list (w := w) (k := 2) (ds := ones.map encI) (lo := Option.none) (hi := some ((s / 9 : Nat) : Int)) (by simp; omega)
    rw [cut_to, ← List.map_take] at this
    exact this
  have a1 := adR w (k := 2) encI (List.replicate (s % 3) [0]) ones (by simp; omega)
  have a2 := adR w (k := 2) encI (List.replicate (s / 3 % 3) [0]) (ones.take (s / 9)) (by simp; omega)
  have a3 := adR w (k := 2) encI (List.replicate (s / 3 % 3) [0] ++ ones.take (s / 9)) others (by simp; omega)
  refine Exs.ret (Ex.ret_some (Ev.list (Evs.cons (Ev.binop (.eq (Ev.listmul (x := ((s % 3 : Nat) : Int)) (by walk_at "mEvs") (by walk_at "mEv") (by omega) (by omega) (by simp; omega) (by simp)) (congrArg D.list (fl _))) (by walk_at "mEv") a1)
    (Evs.cons (Ev.binop (Ev.binop (.eq (Ev.listmul (x := ((s / 3 % 3 : Nat) : Int)) (by walk_at "mEvs") (by walk_at "mEv") (by omega) (by omega) (by simp; omega) (by simp)) (congrArg D.list (fl _))) (by walk_at "mEv") a2) (by walk_at "mEv") a3) Evs.nil)) (by walk_at "mSide")))
/-! ## loops that stop -/
theorem iter_stop {σ : Type} (f : σ → σ) (c : σ → Bool) (μ : σ → Nat) (dec : ∀ s, c s = true → μ (f s) < μ s) : ∀ (n : Nat) (s : σ), μ s ≤ n → ∃ m, m ≤ n ∧ (∀ i < m, c (iter f i s) = true) ∧ c (iter f m s) = false
  | n, s, h => by
    by_cases hc : c s = true
    · cases n with
      | zero => have := dec s hc; omega
      | succ n =>
        obtain ⟨m, h1, h2, h3⟩ := iter_stop f c μ dec n (f s) (by have := dec s hc; omega)
        refine ⟨m + 1, by omega, fun i hi => ?_, by rw [← iter_in]; exact h3⟩
        cases i with
        | zero => exact hc
        | succ i => rw [← iter_in]; exact h2 i (by omega)
    · exact ⟨0, Nat.zero_le _, fun i hi => absurd hi (by omega), by show c s = false; simpa using hc⟩
def loopW {σ : Type} (f : σ → σ) (c : σ → Bool) : Nat → σ → σ
  | 0, s => s
  | n + 1, s => if c s then loopW f c n (f s) else s
theorem loopW_eq {σ : Type} (f : σ → σ) (c : σ → Bool) : ∀ (m n : Nat) (s : σ), m ≤ n → (∀ i < m, c (iter f i s) = true) → c (iter f m s) = false → loopW f c n s = iter f m s
  | 0, n, s, _, _, h => by
    cases n with
    | zero => rfl
    | succ n => rw [loopW, if_neg (by simpa [iter] using h)]; rfl
  | m + 1, n, s, hn, h1, h2 => by
    cases n with
    | zero => omega
    | succ n =>
      have h0 : c s = true := h1 0 (by omega)
      rw [loopW, if_pos h0, ← iter_in]
      exact loopW_eq f c m n (f s) (by omega) (fun i hi => by rw [iter_in]; exact h1 (i + 1) (by omega)) (by rw [iter_in]; exact h2)

/-! ## _law_taken -/
theorem psx_len (p : List UInt8) : (psx p).1.length + (psx p).2.length = p.length := by
  unfold psx
  split
  · simp; omega
  · simp
/-- row, stem, ending -/
abbrev XS := List Int × List UInt8 × List UInt8
def xStep (s : XS) : XS := (wval (s.2.2.drop 1) :: s.1, (psx s.2.1).1, (psx s.2.1).2)
def xGo (s : XS) : Bool := s.2.2 != []
def xMu (s : XS) : Nat := s.2.1.length + s.2.2.length
theorem xDec (s : XS) (h : xGo s = true) : xMu (xStep s) < xMu s := by
  have h1 := psx_len s.2.1
  have h2 : s.2.2 ≠ [] := by simpa [xGo] using h
  have h3 : 0 < s.2.2.length := List.length_pos_iff.2 h2
  simp only [xMu, xStep]; omega
def xRow (name : List UInt8) : XS := loopW xStep xGo name.length ([], (psx name).1, (psx name).2)
def rowOf (name : List UInt8) : List Int :=
  let s := xRow name
  List.replicate (s.2.1.count 46) 0 ++ [wval (s.2.1.drop (s.2.1.count 46))] ++ s.1

theorem rstrip_len (c : UInt8) (h : List UInt8) : (rstripB c h).length ≤ h.length := by
  unfold rstripB
  rw [List.length_reverse]
  exact Nat.le_trans (List.dropWhile_suffix _).length_le (by simp)
theorem psplit_len (p : List UInt8) : (psplit p).1.length + (psplit p).2.length ≤ p.length := by
  unfold psplit
  dsimp only
  have := lastOf_le 47 p
  have h1 : (p.take (lastOf 47 p)).length + (p.drop (lastOf 47 p)).length = p.length := by simp; omega
  split
  · have := rstrip_len 47 (p.take (lastOf 47 p)); omega
  · omega
/-- rows, head, name -/
abbrev YS := List (List Int) × List UInt8 × List UInt8
def yStep (s : YS) : YS := (rowOf s.2.2 :: s.1, (psplit s.2.1).1, (psplit s.2.1).2)
def yGo (s : YS) : Bool := s.2.2 != []
def yMu (s : YS) : Nat := s.2.1.length + s.2.2.length
theorem yDec (s : YS) (h : yGo s = true) : yMu (yStep s) < yMu s := by
  have h1 := psplit_len s.2.1
  have h2 : s.2.2 ≠ [] := by simpa [yGo] using h
  have h3 : 0 < s.2.2.length := List.length_pos_iff.2 h2
  simp only [yMu, yStep]; omega
def takenB (path : List UInt8) : YS := loopW yStep yGo path.length ([], (psplit path).1, (psplit path).2)

theorem x_iter_len : ∀ (i : Nat) (s : XS), (iter xStep i s).1.length = s.1.length + i ∧ xMu (iter xStep i s) ≤ xMu s
  | 0, s => ⟨rfl, Nat.le_refl _⟩
  | i + 1, s => by
    obtain ⟨h1, h2⟩ := x_iter_len i s
    refine ⟨by show (wval _ :: (iter xStep i s).1).length = _; simp [h1]; omega, ?_⟩
    have := psx_len (iter xStep i s).2.1
    have e : xMu (iter xStep (i + 1) s) = (psx (iter xStep i s).2.1).1.length + (psx (iter xStep i s).2.1).2.length := rfl
    rw [e]
    have e2 : xMu (iter xStep i s) = (iter xStep i s).2.1.length + (iter xStep i s).2.2.length := rfl
    omega
theorem y_iter_len : ∀ (i : Nat) (s : YS), (iter yStep i s).1.length = s.1.length + i ∧ yMu (iter yStep i s) ≤ yMu s
  | 0, s => ⟨rfl, Nat.le_refl _⟩
  | i + 1, s => by
    obtain ⟨h1, h2⟩ := y_iter_len i s
    refine ⟨by show (rowOf _ :: (iter yStep i s).1).length = _; simp [h1]; omega, ?_⟩
    have := psplit_len (iter yStep i s).2.1
    have e : yMu (iter yStep (i + 1) s) = (psplit (iter yStep i s).2.1).1.length + (psplit (iter yStep i s).2.1).2.length := rfl
    rw [e]
    have e2 : yMu (iter yStep i s) = (iter yStep i s).2.1.length + (iter yStep i s).2.2.length := rfl
    omega

/-- the frame's letters of the inner loop -/
abbrev ZS := D × D × D × D
def tctx (path : List UInt8) (s : YS) (z : ZS) : Ctx :=
  [(Str.ofString "path", .bytes path), (Str.ofString "rows", encR s.1), (Str.ofString "head", .bytes s.2.1), (Str.ofString "name", .bytes s.2.2), (Str.ofString "row", z.1), (Str.ofString "stem", z.2.1), (Str.ofString "ending", z.2.2.1), (Str.ofString "dots", z.2.2.2)]

def zOf (name : List UInt8) : ZS := (encI ((xRow name).1), .bytes (xRow name).2.1, .bytes (xRow name).2.2, .int (((xRow name).2.1.count 46 : Nat) : Int))
def zAt (s : YS) : Nat → ZS
  | 0 => (.undef, .undef, .undef, .undef)
  | i + 1 => zOf (iter yStep i s).2.2

theorem law_taken (w : World) (path : List UInt8) (hp : path.length ≤ 2000) : Fn w 4 (fnAt 36) [.bytes path] (.tuple [encR (takenB path).1, .bytes (takenB path).2.1]) := by
  refine Fn.mk [Str.ofString "path"] [Str.ofString "rows", Str.ofString "head", Str.ofString "name", Str.ofString "row", Str.ofString "stem", Str.ofString "ending", Str.ofString "dots"] (by walk_at "mFn1") rfl (by decide +kernel) (by decide +kernel) fun L a cd => ?_
  walk_at "mCtx"
  walk_at "asg"
  have c1 := c_split w (k := 3) (Nat.le_refl _) path (by omega)
  have pl := psplit_len path
  refine Exs.cons (Ex.unpack2 (by walk_at "mEv") (by walk_at "mAt") (by walk_at "mAt")) ?_
  clear c1
  obtain ⟨m, hm, go, stop⟩ := iter_stop yStep yGo yMu yDec path.length ([], (psplit path).1, (psplit path).2) pl
  have res := loopW_eq yStep yGo m path.length ([], (psplit path).1, (psplit path).2) hm go stop
  have il := fun i => y_iter_len i ([], (psplit path).1, (psplit path).2)
  unfold takenB
  rw [res]
  have mu0 : yMu ([], (psplit path).1, (psplit path).2) ≤ 2000 := by simp only [yMu]; omega
  have len0 : (([], (psplit path).1, (psplit path).2) : YS).1.length ≤ 2000 := by simp
  show Exs w _ 3 _ (tctx path ([], (psplit path).1, (psplit path).2) (.undef, .undef, .undef, .undef)) _ _
  generalize (([], (psplit path).1, (psplit path).2) : YS) = s0 at *
  have m2000 : m ≤ 2000 := by omega
  refine Exs.cons (ρ' := tctx path (iter yStep m s0) (zAt s0 m)) (Ex.whileN (fun i => tctx path (iter yStep i s0) (zAt s0 i)) m (fun i hi => ⟨?_, ?_⟩) ?_) ?_
  · unfold tctx
    exact .eq (by walk_at "mTst") (by exact go i hi)
  · have gi := go i hi
    obtain ⟨il1, il2⟩ := il i
    rw [show tctx path (iter yStep (i + 1) s0) (zAt s0 (i + 1)) = tctx path (yStep (iter yStep i s0)) (zOf (iter yStep i s0).2.2) from rfl]
    generalize iter yStep i s0 = s at *
    generalize zAt s0 i = z at *
    have nl : s.2.2.length ≤ 2000 := by simp only [yMu] at il2 mu0; omega
    have hl : s.2.1.length ≤ 2000 := by simp only [yMu] at il2 mu0; omega
    unfold tctx
    walk_at "asg"
    have c1 := c_splitext w (k := 3) (Nat.le_refl _) s.2.2 (by omega)
    refine Exs.cons (Ex.unpack2 (by walk_at "mEv") (by walk_at "mAt") (by walk_at "mAt")) ?_
    clear c1
    show Exs w _ 3 _ (tctx path s (encI (([], (psx s.2.2).1, (psx s.2.2).2) : XS).1, .bytes (([], (psx s.2.2).1, (psx s.2.2).2) : XS).2.1, .bytes (([], (psx s.2.2).1, (psx s.2.2).2) : XS).2.2, z.2.2.2)) _ _
    have xl := psx_len s.2.2
    obtain ⟨m2, hm2, go2, stop2⟩ := iter_stop xStep xGo xMu xDec s.2.2.length ([], (psx s.2.2).1, (psx s.2.2).2) (by simp only [xMu]; omega)
    have res2 := loopW_eq xStep xGo m2 s.2.2.length ([], (psx s.2.2).1, (psx s.2.2).2) hm2 go2 stop2
    have ilx := fun j => x_iter_len j ([], (psx s.2.2).1, (psx s.2.2).2)
    have x0l : xMu ([], (psx s.2.2).1, (psx s.2.2).2) ≤ 2000 := by simp only [xMu]; omega
    have zr : xRow s.2.2 = iter xStep m2 ([], (psx s.2.2).1, (psx s.2.2).2) := res2
    unfold yStep zOf rowOf
    rw [zr]
    have x1 : (([], (psx s.2.2).1, (psx s.2.2).2) : XS).1.length = 0 := rfl
    generalize (([], (psx s.2.2).1, (psx s.2.2).2) : XS) = x0 at *
    refine Exs.cons (ρ' := tctx path s (encI (iter xStep m2 x0).1, .bytes (iter xStep m2 x0).2.1, .bytes (iter xStep m2 x0).2.2, z.2.2.2)) (Ex.whileN (fun j => tctx path s (encI (iter xStep j x0).1, .bytes (iter xStep j x0).2.1, .bytes (iter xStep j x0).2.2, z.2.2.2)) m2 (fun j hj => ⟨?_, ?_⟩) ?_) ?_
    · unfold tctx
      exact .eq (by walk_at "mTst") (by exact go2 j hj)
    · obtain ⟨ix1, ix2⟩ := ilx j
      rw [show iter xStep (j + 1) x0 = xStep (iter xStep j x0) from rfl]
      generalize iter xStep j x0 = x at *
      have sl2 : x.2.1.length ≤ 2000 ∧ x.2.2.length ≤ 2000 := by simp only [xMu] at ix2 x0l; omega
      unfold tctx xStep
      have sc : Sli w 3 (.bytes x.2.2) (some 1) Option.none Option.none (.bytes (x.2.2.drop 1)) := by
        have := Sli.bytes (w := w) (k := 3) (a := x.2.2) (lo := some ((1 : Nat) : Int)) (hi := Option.none) (by omega)
        rw [cut_from] at this
        exact this
      have c2 := c_value w (k := 3) (by omega) (x.2.2.drop 1) (by simp; omega)
      have c3 := c_splitext w (k := 3) (Nat.le_refl _) x.2.1 (by omega)
      have ad : Bin w 3 .Add (.list [.int (wval (x.2.2.drop 1))]) (encI x.1) (encI (wval (x.2.2.drop 1) :: x.1)) := adR w D.int [wval (x.2.2.drop 1)] x.1 (by simp; omega)
      walk_at "asg"
      refine Exs.cons (Ex.unpack2 (by walk_at "mEv") (by walk_at "mAt") (by walk_at "mAt")) Exs.nil
    · unfold tctx
      exact .eq (by walk_at "mTst") (by exact stop2)
    · obtain ⟨ix1, ix2⟩ := ilx m2
      generalize iter xStep m2 x0 = x at *
      have sl2 : x.2.1.length ≤ 2000 ∧ x.2.2.length ≤ 2000 := by simp only [xMu] at ix2 x0l; omega
      unfold tctx
      walk_at "asg"
      have cc : x.2.1.count 46 ≤ x.2.1.length := List.count_le_length
      have sc : Sli w 3 (.bytes x.2.1) (some ((x.2.1.count 46 : Nat) : Int)) Option.none Option.none (.bytes (x.2.1.drop (x.2.1.count 46))) := by
        rw [← cut_from]; exact Sli.bytes (by omega)
      have c2 := c_value w (k := 3) (by omega) (x.2.1.drop (x.2.1.count 46)) (by simp; omega)
      have c3 := c_split w (k := 3) (Nat.le_refl _) s.2.1 (by omega)
      have fl (n : Nat) : (List.replicate ((n : Int).toNat) [D.int 0]).flatten = (List.replicate n (0 : Int)).map D.int := by simp
      have a1 : Bin w 3 .Add (.list ((List.replicate (x.2.1.count 46) (0 : Int)).map D.int)) (.list [.int (wval (x.2.1.drop (x.2.1.count 46)))]) (encI (List.replicate (x.2.1.count 46) 0 ++ [wval (x.2.1.drop (x.2.1.count 46))])) := adR w D.int _ [wval (x.2.1.drop (x.2.1.count 46))] (by simp; omega)
      have a2 := adR w (k := 3) D.int (List.replicate (x.2.1.count 46) 0 ++ [wval (x.2.1.drop (x.2.1.count 46))]) x.1 (by simp; omega)
      have a3 : Bin w 3 .Add (.list [encI (List.replicate (x.2.1.count 46) 0 ++ [wval (x.2.1.drop (x.2.1.count 46))] ++ x.1)]) (encR s.1) (encR ((List.replicate (x.2.1.count 46) 0 ++ [wval (x.2.1.drop (x.2.1.count 46))] ++ x.1) :: s.1)) := adR w encI [_] s.1 (by simp; omega)
      refine Exs.cons (Ex.assign (Ev.binop (Ev.list (Evs.cons (Ev.binop (Ev.binop (.eq (Ev.listmul (x := ((x.2.1.count 46 : Nat) : Int)) (by walk_at "mEvs") (by walk_at "mEv") (by omega) (by omega) (by simp; omega) (by simp)) (congrArg D.list (fl _))) (by walk_at "mEv") a1) (by walk_at "mEv") a2) Evs.nil) (by walk_at "mSide")) (by walk_at "mEv") a3) (by walk_at "mAt")) ?_
      refine Exs.cons (Ex.unpack2 (by walk_at "mEv") (by walk_at "mAt") (by walk_at "mAt")) Exs.nil
  · unfold tctx
    exact .eq (by walk_at "mTst") (by exact stop)
  · unfold tctx
    walk_at "ret"
theorem c_taken (w : World) {k : Nat} (hk : 4 ≤ k) (path : List UInt8) (hp : path.length ≤ 2000) : FnN w k (Str.ofString "_law_taken") [.bytes path] (.tuple [encR (takenB path).1, .bytes (takenB path).2.1]) := ((law_taken w path hp).at (by decide) rfl).mono_k hk

/-! ## _law_told -/
def slN (rows : List (List Int)) : Nat := if 2 < front rows then 1 else front rows
structure Told (rows : List (List Int)) : Prop where
  ne : rows ≠ []
  ok : RowsOk rows
  read : readB (spellB rows) = rows
  root : sroot (spellB rows) = (List.replicate (slN rows) 47, spellB (rows.drop (slN rows)))
  split : psplit (spellB rows) = halves rows
  ext : psx (spellB rows) = ending rows
  norm : normB (spellB rows) = List.replicate (slN rows) 47 ++ spellB (namesN rows (slN rows))
  taken : (takenB (List.replicate (slN rows) 47 ++ spellB (namesN rows (slN rows)))).1 = namesN rows (slN rows) ∧ (takenB (List.replicate (slN rows) 47 ++ spellB (namesN rows (slN rows)))).2.1 = List.replicate (slN rows) 47

theorem slN_le (rows : List (List Int)) : slN rows ≤ 2 := by unfold slN; split <;> omega
theorem nmFold_mem (P : List Int → Prop) : ∀ (as : List (List Int)) (s : Nat × List (List Int)), (∀ x ∈ s.2, P x) → (∀ x ∈ as, P x) → ∀ x ∈ (as.foldl nmStep s).2, P x
  | [], s, h, _ => h
  | r :: as, s, h, h2 => by
    refine nmFold_mem P as (nmStep s r) ?_ (fun x hx => h2 x (List.mem_cons_of_mem _ hx))
    intro x hx
    unfold nmStep at hx
    split at hx
    · exact h x hx
    · split at hx
      · split at hx
        · exact h x hx
        · rcases List.mem_cons.1 hx with rfl | hx
          · exact h2 _ (List.mem_cons_self ..)
          · exact h x hx
      · exact h x hx
theorem namesN_ok (rows : List (List Int)) (sl : Nat) (h : RowsOk rows) : RowsOk (namesN rows sl) := by
  have f1 := nmFold_inv rows.reverse (0, [])
  have f2 := nmFold_mem RowOk rows.reverse (0, []) (by simp) (fun x hx => h.2 x (List.mem_reverse.1 hx))
  have l1 := h.1
  unfold namesN
  generalize rows.reverse.foldl nmStep (0, []) = s at *
  simp only [List.length_nil, List.length_reverse] at f1
  dsimp only
  split
  · exact ⟨by omega, f2⟩
  · split
    · exact ⟨by simp, fun x hx => by rw [List.mem_singleton.1 hx]; exact ⟨by simp, by simp⟩⟩
    · refine ⟨by simp; omega, fun x hx => ?_⟩
      rcases List.mem_append.1 hx with hx | hx
      · rw [(List.mem_replicate.1 hx).2]; exact ⟨by simp, by simp⟩
      · exact f2 x hx

theorem c_normpath (w : World) {k : Nat} (hk : 4 ≤ k) (p : List UInt8) (hp : p.length ≤ 2000) : FnN w k (Str.ofString "normpath") [.bytes p] (.bytes (normB p)) := ((normpath w p hp).at (by decide) rfl).mono_k hk

theorem law_told (w : World) (rows : List (List Int)) (T : Told rows) : Fn w 5 (fnAt 37) [encR rows, .bytes (spellB rows)] (.bool true) := by
  refine Fn.mk [Str.ofString "rows", Str.ofString "path"] [Str.ofString "slashes", Str.ofString "names", Str.ofString "plain"] (by walk_at "mFn2") rfl (by decide +kernel) (by decide +kernel) fun L a cd => ?_
  walk_at "mCtx"
  have ok := T.ok
  have l1 := ok.1
  obtain ⟨b1, -⟩ := spellB_bound ok
  have okn := namesN_ok rows (slN rows) ok
  obtain ⟨b2, -⟩ := spellB_bound okn
  have okd : RowsOk (rows.drop (slN rows)) := ok.sub (by simp) (fun x hx => List.mem_of_mem_drop hx)
  have s2 := slN_le rows
  have c1 := c_spell w (k := 4) (by omega) rows 1 ok (.inl rfl)
  have c2 := c_read w (k := 4) (by omega) (spellB rows) (by omega)
  have c3 := c_front w (k := 4) (by omega) rows (by omega)
  have c4 := c_splitroot w (k := 4) (by omega) (spellB rows) (by omega)
  have c5 := c_spell w (k := 4) (by omega) (rows.drop (slN rows)) 1 okd (.inl rfl)
  have c6 := c_split w (k := 4) (by omega) (spellB rows) (by omega)
  have c7 := c_halves w (k := 4) (by omega) rows ok
  have c8 := c_splitext w (k := 4) (by omega) (spellB rows) (by omega)
  have c9 := c_ending w (k := 4) (by omega) rows T.ne ok
  have cA := c_names w (k := 4) (by omega) rows (slN rows) (by omega)
  have cB := c_normpath w (k := 4) (by omega) (spellB rows) (by omega)
  have cC := c_spell w (k := 4) (by omega) (namesN rows (slN rows)) 1 okn (.inl rfl)
  have cD := c_taken w (k := 4) (by omega) (List.replicate (slN rows) 47 ++ spellB (namesN rows (slN rows))) (by simp; omega)
  rw [T.read] at c2
  rw [T.root] at c4
  rw [T.split] at c6
  rw [T.ext] at c8
  rw [T.norm] at cB
  rw [T.taken.1, T.taken.2] at cD
  have ff : slN rows = if 2 < front rows then 1 else front rows := rfl
  generalize spellB rows = path at *
  generalize slN rows = sl at *
  generalize spellB (rows.drop sl) = tail at *
  generalize namesN rows sl = names at *
  generalize spellB names = np at *
  generalize halves rows = ha at *
  generalize ending rows = en at *
  have e1 : Cmp w 4 .NotEq (encR rows) (encR rows) false := .eq (Cmp.neL (n := 2) (okDs_rows 1 rows rows) (by omega)) (by rw [eqDs_rows]; simp)
  have ml : Bin w 4 .Mult (.bytes [47]) (.int (sl : Int)) (.bytes (List.replicate sl 47)) := by
    have := Bin.mulB (w := w) (k := 4) (b := [47]) (n := (sl : Int)) (by simp) (by omega) (by omega) (by decide)
    simpa using this
  have t3 (x y z : List UInt8) : Cmp w 4 .NotEq (.tuple [.bytes x, .bytes y, .bytes z]) (.tuple [.bytes x, .bytes y, .bytes z]) false := .eq (Cmp.neT (n := 2) (by simp [okDs, okD]) (by omega)) (by simp [eqDs, eqD])
  have t2 (x y : List UInt8) : Cmp w 4 .NotEq (.tuple [.bytes x, .bytes y]) (.tuple [.bytes x, .bytes y]) false := .eq (Cmp.neT (n := 2) (by simp [okDs, okD]) (by omega)) (by simp [eqDs, eqD])
  have t4 : Cmp w 4 .Eq (.tuple [encR names, .bytes (List.replicate sl 47)]) (.tuple [encR names, .bytes (List.replicate sl 47)]) true := .eq (Cmp.eqT (n := 4) (by simp [okDs, okD, okDs_rows]) (by omega)) (by simp [eqDs, eqD, eqDs_rows])
  have t31 := t3 [] (List.replicate sl 47) tail
  have t21 := t2 ha.1 ha.2
  have t22 := t2 en.1 en.2
  refine Exs.cons (Ex.if_false (Tst.or_false (.eq (by walk_at "mTst") (by simp)) (Tst.last (by walk_at "mTst"))) Exs.nil) ?_
  have sd : Sli w 4 (encR rows) (some (sl : Int)) Option.none Option.none (encR (rows.drop sl)) := by
    have := Sli.list (w := w) (k := 4) (ds := rows.map encI) (lo := some (sl : Int)) (hi := Option.none) (by simp; omega)
    rw [cut_from, ← List.map_drop] at this
    exact this
  walk_at "asg"
  refine Exs.cons (ρ' := [(Str.ofString "rows", encR rows), (Str.ofString "path", .bytes path), (Str.ofString "slashes", .int (sl : Int)), (Str.ofString "names", .undef), (Str.ofString "plain", .undef)]) ?_ ?_
  · by_cases hf : 2 < front rows
    · rw [if_pos hf] at ff
      subst ff
      exact Ex.if_true (.eq (by walk_at "mTst") (by simp; omega)) (Exs.cons (Ex.assign (d := .int ((1 : Nat) : Int)) (.eq (by walk_at "mEv") (by rfl)) (by walk_at "mAt")) Exs.nil)
    · rw [if_neg hf] at ff
      subst ff
      exact Ex.if_false (.eq (by walk_at "mTst") (by simp; omega)) Exs.nil
  have ab : Bin w 4 .Add (.bytes (List.replicate sl 47)) (.bytes np) (.bytes (List.replicate sl 47 ++ np)) := Bin.addB (by simp; omega)
  refine Exs.cons (Ex.if_false (by walk_at "mTst") Exs.nil) ?_
  refine Exs.cons (Ex.if_false (Tst.or_false (by walk_at "mTst") (Tst.last (by walk_at "mTst"))) Exs.nil) ?_
  walk_at "asg"
  walk_at "asg"
  refine Exs.cons (Ex.if_false (.eq (by walk_at "mTst") (by simp)) Exs.nil) ?_
  walk_at "ret"
theorem c_told (w : World) {k : Nat} (hk : 5 ≤ k) (rows : List (List Int)) (T : Told rows) : FnN w k (Str.ofString "_law_told") [encR rows, .bytes (spellB rows)] (.bool true) := ((law_told w rows T).at (by decide) rfl).mono_k hk

/-! ## join -/
theorem noI_bytes_add : typeLookup (.type "bytes") (dunderI "add") = pure none := by rw [typeLookup_type, builtinLookup_eq_fast]; kernel_rfl
theorem Inp.addB {w : World} {k : Nat} {a b : List UInt8} (h : a.length + b.length ≤ 16777216) : Inp w k .Add (.bytes a) (.bytes b) (.bytes (a ++ b)) := .mk2 fun N A s E v u R G al x y => by
  obtain ⟨t, rfl⟩ := x.bytes_inv
  obtain ⟨t', rfl⟩ := y.bytes_inv
  have hh : ∀ t' kk, (fun (v : Value) s' => Rep N s'.heap (.bytes (a ++ b)) v ∧ Keeps s s') (.bytes (a.toArray ++ b.toArray) t') { s with toks := kk } := fun t' kk => ⟨by rw [List.append_toArray]; exact .bytes_mk, kSame⟩
  refine iconcat_gives (typeIs_bytes s _ t) (typeIs_bytes s _ t') noI_bytes_add KBy.noFill_bytes_add KBy.seq_bytes_add FB.slot_bytes_add FB.entry_bytes_add (FB.args_bytes_add_2 _ _) (KBy.gives_bytes_add (KBy.tooLong_not (by simpa using h))) ?_
  by_cases hb : a.toArray.isEmpty = true
  · rw [if_pos hb]
    have e : a.toArray = #[] := Array.isEmpty_iff.1 hb
    have h' := hh t' s.toks
    rw [e, Array.empty_append] at h'
    exact h'
  · rw [if_neg hb]
    by_cases hc : b.toArray.isEmpty = true
    · rw [if_pos hc]
      have e : b.toArray = #[] := Array.isEmpty_iff.1 hc
      have h' := hh t s.toks
      rw [e, Array.append_empty] at h'
      exact h'
    · rw [if_neg hc]
      exact ⟨by rw [Array.size_append, sizeLine_eq]; simpa using h, hh s.toks (s.toks + 1)⟩

def joinP (a b : List UInt8) : List UInt8 := if startsB 47 b = true ∨ a = [] then b else if endsB 47 a = true then a ++ b else a ++ ([47] ++ b)
theorem join (w : World) (a b : List UInt8) (ha : a.length ≤ 2000) (hb : b.length ≤ 2000) : Fn w 3 (fnAt 16) [.bytes a, .bytes b] (.bytes (joinP a b)) := by
  refine Fn.mkV (df := [.bytes a]) (dr := [.bytes b]) [Str.ofString "a"] (Str.ofString "p") [Str.ofString "sep", Str.ofString "path", Str.ofString "b"] (fun pm cd doc => all11 fun x y => rfl) rfl (by simp) (by decide +kernel) (by decide +kernel) fun L a_1 cd => ?_
  walk_at "mCtx"
  have c1 := c_fspath w (k := 2) (Nat.le_refl _) a
  have c2 := c_get_sep w (k := 2) (Nat.le_refl _) a
  have c3 := c_fspath w (k := 2) (Nat.le_refl _) b
  walk_at "doc"
  walk_at "asg"
  walk_at "asg"
  walk_at "asg"
  have ab : Bin w 2 .Add (.bytes [47]) (.bytes b) (.bytes ([47] ++ b)) := Bin.addB (by simp; omega)
  refine Exs.cons (ρ' := [(Str.ofString "a", .bytes a), (Str.ofString "p", .tuple [.bytes b]), (Str.ofString "sep", .bytes [47]), (Str.ofString "path", .bytes (joinP a b)), (Str.ofString "b", .bytes b)]) (Ex.try (Exs.cons (Ex.for (dv := .tuple [.bytes b]) (by walk_at "mEv") (its_tuple (by rw [sizeLine_eq]; simp)) (ForD.step (by walk_at "mAt") ?_ ForD.done)) Exs.nil)) ?_
  · walk_at "asg"
    have ta : Tru w 2 (.bytes a) (!a.isEmpty) := Tru.bytes (by omega)
    unfold joinP
    by_cases h1 : startsB 47 b = true
    · rw [if_pos (.inl h1)]
      refine Exs.cons (Ex.if_true (Tst.or_true (.eq (by walk_at "mTst") h1)) (Exs.cons (Ex.assign (by walk_at "mEv") (by walk_at "mAt")) Exs.nil)) Exs.nil
    by_cases h2 : a = []
    · rw [if_pos (.inr h2)]
      refine Exs.cons (Ex.if_true (Tst.or_false (.eq (by walk_at "mTst") (by simpa using h1)) (Tst.last (.eq (by walk_at "mTst") (by rw [h2]; rfl)))) (Exs.cons (Ex.assign (by walk_at "mEv") (by walk_at "mAt")) Exs.nil)) Exs.nil
    rw [if_neg (fun h => h.elim h1 h2)]
    refine Exs.cons (Ex.if_false (Tst.or_false (.eq (by walk_at "mTst") (by simpa using h1)) (Tst.last (.eq (by walk_at "mTst") (by simpa using h2)))) ?_) Exs.nil
    by_cases h3 : endsB 47 a = true
    · rw [if_pos h3]
      refine Exs.cons (Ex.if_true (.eq (by walk_at "mTst") (by exact h3)) (Exs.cons (Ex.aug (by walk_at "mAt") (by walk_at "mEv") (Inp.addB (by omega)) (by walk_at "mAt") rfl) Exs.nil)) Exs.nil
    · rw [if_neg h3]
      refine Exs.cons (Ex.if_false (.eq (by walk_at "mTst") (by simpa using h3)) (Exs.cons (Ex.aug (by walk_at "mAt") (by walk_at "mEv") (Inp.addB (by simp; omega)) (by walk_at "mAt") rfl) Exs.nil)) Exs.nil
  · walk_at "ret"
theorem c_join (w : World) {k : Nat} (hk : 3 ≤ k) (a b : List UInt8) (ha : a.length ≤ 2000) (hb : b.length ≤ 2000) : FnN w k (Str.ofString "join") [.bytes a, .bytes b] (.bytes (joinP a b)) := ((join w a b ha hb).at (by decide) rfl).mono_k hk

/-! ## commonpath of two that start alike -/
def compsB (p : List UInt8) : List (List UInt8) := (splitB 47 p).filter fun c => !c.isEmpty && !(c == [46])
def minL (u v : List (List UInt8)) := if cmpL v u == .lt then v else u
def maxL (u v : List (List UInt8)) := if cmpL v u == .gt then v else u
/-- what commonpath gives for two that start alike -/
def commonB (p q : List UInt8) : List UInt8 := (if startsB 47 p then [47] else []) ++ joinB [47] (comm (minL (compsB p) (compsB q)) (maxL (compsB p) (compsB q)))

theorem Tru.tuple {w : World} {k : Nat} {ds : List D} (h : ds.length ≤ 1000) : Tru w k (.tuple ds) (!ds.isEmpty) := .mk1 fun N A s E v R G al x => by
  obtain ⟨a, vs, rfl, na, l, rs⟩ := x.tuple_inv
  have hv := rs.length
  refine truthy_tuple l (by simp; omega) ⟨?_, kSame⟩
  cases vs <;> cases ds <;> simp at hv ⊢

theorem cmpL_pre (c : List UInt8) (r : List (List UInt8)) : ∀ v : List (List UInt8), cmpL (v ++ c :: r) v = .gt ∧ cmpL v (v ++ c :: r) = .lt
  | [] => ⟨rfl, rfl⟩
  | x :: v => by
    have := cmpL_pre c r v
    simp [cmpL, this.1, this.2]
theorem pre_of {u v : List (List UInt8)} {i : Nat} (h1 : i < u.length) (h2 : u.take i = v.take i) (h3 : v.length ≤ i) : ∃ c r, u = v ++ c :: r := by
  rw [List.take_of_length_le h3] at h2
  refine ⟨u[i], u.drop (i + 1), ?_⟩
  rw [← List.drop_eq_getElem_cons h1, ← h2, List.take_append_drop]
theorem minmax_pre (a b : List (List UInt8)) (i : Nat) (h1 : i < (minL a b).length) (h2 : (minL a b).take i = (maxL a b).take i) : i < (maxL a b).length := by
  rcases Nat.lt_or_ge i (maxL a b).length with h | h
  · exact h
  obtain ⟨c, r, e⟩ := pre_of h1 h2 h
  have q := cmpL_pre c r (maxL a b)
  rw [← e] at q
  simp only [minL, maxL] at q h1 h
  cases hc : cmpL b a <;> simp [hc] at q h1 h <;> omega

theorem sumlen_le (n : Nat) : ∀ l : List (List UInt8), (∀ x ∈ l, x.length ≤ n) → (l.map (·.length)).sum ≤ l.length * n
  | [], _ => by simp
  | x :: l, h => by
    have h1 := sumlen_le n l fun y hy => h y (List.mem_cons_of_mem _ hy)
    have h2 := h x (List.mem_cons_self ..)
    simp only [List.map_cons, List.sum_cons, List.length_cons, Nat.add_mul, Nat.one_mul]
    omega
theorem joinB_le : ∀ l : List (List UInt8), (joinB [47] l).length ≤ (l.map (·.length)).sum + l.length
  | [] => by simp [joinB]
  | [x] => by simp [joinB]
  | x :: y :: r => by
    have := joinB_le (y :: r)
    simp only [joinB, List.length_append, List.map_cons, List.sum_cons, List.length_cons, List.length_nil] at this ⊢
    omega
theorem comm_le : ∀ u v : List (List UInt8), (comm u v).length ≤ u.length ∧ ∀ x ∈ comm u v, x ∈ u
  | [], v => by cases v <;> simp [comm]
  | a :: u, [] => by simp [comm]
  | a :: u, b :: v => by
    have ih := comm_le u v
    by_cases h : a = b
    · simp only [comm, if_pos h, List.length_cons, List.mem_cons]
      exact ⟨by omega, fun x hx => hx.elim .inl fun hx => .inr (ih.2 x hx)⟩
    · simp [comm, h]
theorem compsB_len (p : List UInt8) (hp : p.length ≤ 2000) : (compsB p).length ≤ 2001 ∧ ∀ x ∈ compsB p, x.length ≤ 2000 := by
  have a := splitB_len 47 p
  refine ⟨Nat.le_trans (List.length_filter_le _ _) (by omega), fun x hx => ?_⟩
  have := a.2 x (List.mem_filter.1 hx).1
  omega

theorem commonpath (w : World) (p q : List UInt8) (hp : p.length ≤ 2000) (hq : q.length ≤ 2000) (hs : startsB 47 p = startsB 47 q) : Fn w 4 (fnAt 22) [.list [.bytes p, .bytes q]] (.bytes (commonB p q)) := by
  refine Fn.mk [Str.ofString "paths"] [Str.ofString "sep", Str.ofString "curdir", Str.ofString "split_paths", Str.ofString "isabs", Str.ofString "c", Str.ofString "s1", Str.ofString "s2", Str.ofString "common", Str.ofString "i", Str.ofString "prefix"] (by walk_at "mFn1") rfl (by decide +kernel) (by decide +kernel) fun L a cd => ?_
  walk_at "mCtx"
  walk_at "doc"
  refine Exs.cons (Ex.assign (d := .tuple [.bytes p, .bytes q]) (Ev.tuplemap (xs := [p, q]) (fr := fnAt 10) (fun b => fspath w b) (mem_fns (by decide)) rfl At.here (by simp)) (by walk_at "mAt")) ?_
  have tt : Tru w 3 (.tuple [.bytes p, .bytes q]) true := Tru.tuple (by simp)
  refine Exs.cons (Ex.if_false (.eq (by walk_at "mTst") (by rfl)) Exs.nil) ?_
  have u0 : Itm w 3 (.tuple [.bytes p, .bytes q]) (.int 0) (.bytes p) := Itm.tuple (j := 0) (by simp only [List.length_cons, List.length_nil]; decide) rfl (by decide) (by decide)
  refine Exs.cons (Ex.if_true (.eq (by walk_at "mTst") (by rfl)) (Exs.cons (Ex.assign (by walk_at "mEv") (by walk_at "mAt")) (Exs.cons (Ex.assign (by walk_at "mEv") (by walk_at "mAt")) Exs.nil))) ?_
  have sp : ∀ x : List UInt8, x.length ≤ 2000 → (splitB 47 x).length ≤ 2001 := fun x hx => by have := (splitB_len 47 x).1; omega
  have cm : ∀ x, (compsB x).length ≤ (splitB 47 x).length := fun x => List.length_filter_le _ _
  have eL : ∀ x y : List (List UInt8), D.list [encB x, encB y] = .list ([x, y].map fun l => encB l) := fun _ _ => rfl
  refine Exs.ret (Ex.try (Exs.cons (Ex.comp0A D.bytes inj_bytes [p, q] (fun x => encB (splitB 47 x)) (ρ₁ := [(Str.ofString "paths", .tuple [.bytes p, .bytes q]), (Str.ofString "sep", .bytes [47]), (Str.ofString "curdir", .bytes [46]), (Str.ofString "split_paths", .list [encB (splitB 47 p), encB (splitB 47 q)]), (Str.ofString "isabs", .undef), (Str.ofString "c", .undef), (Str.ofString "s1", .undef), (Str.ofString "s2", .undef), (Str.ofString "common", .undef), (Str.ofString "i", .undef), (Str.ofString "prefix", .undef)]) (dv := .tuple [.bytes p, .bytes q]) (by walk_at "mEv") (its_tuple (by rw [sizeLine_eq]; simp)) (FreeOk.one (y := Str.ofString "sep") (by walk_at "mAt") rfl) (by simp only [List.map_cons, List.map_nil]; walk_at "mAt") (fun x hx C => ?_)) ?_))
  · have hxl : x.length ≤ 2000 := by
      rcases List.mem_cons.1 hx with rfl | hx
      · exact hp
      · rw [List.mem_singleton.1 hx]; exact hq
    walk_at "mEv"
  refine Exs.cons (Ex.try (Exs.cons (Ex.unpackSet (F := fun d => match d with | .bytes x => startsB 47 x | _ => false) (d₁ := .bytes p) (d₂ := .bytes q) (startsB 47 p) rfl hs.symm (dv := .tuple [.bytes p, .bytes q]) (by walk_at "mEv") (its_tuple (by rw [sizeLine_eq]; simp)) (FreeOk.one (y := Str.ofString "sep") (by walk_at "mAt") rfl) (fun d hd C => ?_) (by walk_at "mAt")) Exs.nil)) ?_
  · rcases List.mem_cons.1 hd with rfl | hd
    · show Ev _ _ _ _ _ (.bool (startsB 47 p)); walk_at "mEv"
    · obtain rfl := List.mem_singleton.1 hd
      show Ev _ _ _ _ _ (.bool (startsB 47 q)); walk_at "mEv"
  refine Exs.cons (Ex.comp0A encB inj_encB [splitB 47 p, splitB 47 q] (fun l => encB (l.filter fun c => !c.isEmpty && !(c == [46]))) (ρ₁ := [(Str.ofString "paths", .tuple [.bytes p, .bytes q]), (Str.ofString "sep", .bytes [47]), (Str.ofString "curdir", .bytes [46]), (Str.ofString "split_paths", .list [encB (compsB p), encB (compsB q)]), (Str.ofString "isabs", .bool (startsB 47 p)), (Str.ofString "c", .undef), (Str.ofString "s1", .undef), (Str.ofString "s2", .undef), (Str.ofString "common", .undef), (Str.ofString "i", .undef), (Str.ofString "prefix", .undef)]) (dv := .list [encB (splitB 47 p), encB (splitB 47 q)]) (by walk_at "mEv") (its_list (by rw [sizeLine_eq]; simp)) (FreeOk.one (y := Str.ofString "curdir") (by walk_at "mAt") rfl) (by simp only [List.map_cons, List.map_nil]; change Upd _ _ (.list [encB (compsB p), encB (compsB q)]) _; walk_at "mAt") (fun l hl C => ?_)) ?_
  · have hll : l.length ≤ 2001 ∧ ∀ x ∈ l, x.length ≤ 2001 := by
      have a1 := splitB_len 47 p
      have a2 := splitB_len 47 q
      rcases List.mem_cons.1 hl with rfl | hl
      · exact ⟨by omega, fun x hx => by have := a1.2 x hx; omega⟩
      · rw [List.mem_singleton.1 hl]
        exact ⟨by omega, fun x hx => by have := a2.2 x hx; omega⟩
    refine Ev.comp1 D.bytes inj_bytes l (fun c => !c.isEmpty && !(c == [46])) D.bytes (by walk_at "mEv") (its_list (by rw [sizeLine_eq]; simp; omega)) (FreeOk.one (y := Str.ofString "curdir") (by walk_at "mAt") rfl) (fun c hc C2 => ?_) (fun c hc _ C2 => by walk_at "mEv")
    have hcl := hll.2 c hc
    cases e : c.isEmpty
    · exact Tst.and_true (.eq (by walk_at "mTst") (by simp [e])) (Tst.last (.eq (by walk_at "mTst") (by simp [e]; rfl)))
    · exact Tst.and_false (.eq (by walk_at "mTst") (by simp [e]))
  have mn : Op w 3 (fun vs => call (.builtin "min") vs) [.list [encB (compsB p), encB (compsB q)]] (encB (minL (compsB p) (compsB q))) := Op.min2
  have mx : Op w 3 (fun vs => call (.builtin "max") vs) [.list [encB (compsB p), encB (compsB q)]] (encB (maxL (compsB p) (compsB q))) := Op.max2
  walk_at "asg"
  walk_at "asg"
  walk_at "asg"
  unfold commonB
  have hu : (minL (compsB p) (compsB q)).length ≤ 2001 ∧ ∀ x ∈ minL (compsB p) (compsB q), x.length ≤ 2000 := by unfold minL; split <;> exact compsB_len _ (by assumption)
  have hv : (maxL (compsB p) (compsB q)).length ≤ 2001 ∧ ∀ x ∈ maxL (compsB p) (compsB q), x.length ≤ 2000 := by unfold maxL; split <;> exact compsB_len _ (by assumption)
  have hpre := minmax_pre (compsB p) (compsB q)
  generalize minL (compsB p) (compsB q) = u at *
  generalize maxL (compsB p) (compsB q) = v at *
  have cl := comm_le u v
  have sl := sumlen_le 2000 (comm u v) fun x hx => hu.2 x (cl.2 x hx)
  have jl := joinB_le (comm u v)
  have hlen : u.length ≤ 2001 ∧ v.length ≤ 2001 ∧ (joinB [47] (comm u v)).length ≤ 8000000 := ⟨hu.1, hv.1, by omega⟩
  refine Exs.enumCommon (fun ci ii X => [(Str.ofString "paths", .tuple [.bytes p, .bytes q]), (Str.ofString "sep", .bytes [47]), (Str.ofString "curdir", .bytes [46]), (Str.ofString "split_paths", .list [encB (compsB p), encB (compsB q)]), (Str.ofString "isabs", .bool (startsB 47 p)), (Str.ofString "c", ci), (Str.ofString "s1", encB u), (Str.ofString "s2", encB v), (Str.ofString "common", encB X), (Str.ofString "i", ii), (Str.ofString "prefix", .undef)]) (u := u) (v := v) (by walk_at "mAt") (fun _ _ _ => by walk_at "mAt") (fun _ _ _ => by walk_at "mAt") hpre (fun i c hu hv => ?_) (fun i c c' hu hv hc => ?_) (fun cj ij => ?_)
  · have hi : i < v.length := (List.getElem?_eq_some_iff.1 hv).1
    have it : Itm w 3 (encB v) (.int (i : Int)) (.bytes c) := Itm.listPos (by omega) (by simp [hv]) (by omega)
    refine Exs.cons (Ex.if_false (.eq (by walk_at "mTst") (by simp)) Exs.nil) Exs.nil
  · have hi : i < v.length := (List.getElem?_eq_some_iff.1 hv).1
    have it : Itm w 3 (encB v) (.int (i : Int)) (.bytes c') := Itm.listPos (by omega) (by simp [hv]) (by omega)
    have sl : Sli w 3 (encB u) Option.none (some (i : Int)) Option.none (encB (u.take i)) := by
      have := Sli.list (w := w) (k := 3) (ds := u.map .bytes) (lo := Option.none) (hi := some (i : Int)) (by simp; omega)
      rw [cut_to, ← List.map_take] at this
      exact this
    exact Exs.brk (Ex.if_true (.eq (by walk_at "mTst") (by simp [hc])) (Exs.cons (Ex.assign (by walk_at "mEv") (by walk_at "mAt")) (Exs.brk Ex.break)))
  have s0 : Sli w 3 (.bytes [47]) Option.none (some 0) Option.none (.bytes []) := by
    have := Sli.bytes (w := w) (k := 3) (a := [47]) (lo := Option.none) (hi := some 0) (by decide)
    exact this
  have jn := Op.join (w := w) (k := 3) (sep := [47]) (xs := comm u v) (by omega) (by simp only [List.length_cons, List.length_nil]; omega)
  refine Exs.cons (Ex.assign (d := .bytes (if startsB 47 p then [47] else [])) ?_ (by walk_at "mAt")) ?_
  · cases e : startsB 47 p
    · exact Ev.ifexp_false (.eq (by walk_at "mTst") (by rfl)) (by simp only [if_true, if_false, Bool.false_eq_true]; walk_at "mEv")
    · exact Ev.ifexp_true (.eq (by walk_at "mTst") (by rfl)) (by simp only [if_true, if_false, Bool.false_eq_true]; walk_at "mEv")
  have ab : Bin w 3 .Add (.bytes (if startsB 47 p then [47] else [])) (.bytes (joinB [47] (comm u v))) (.bytes ((if startsB 47 p then [47] else []) ++ joinB [47] (comm u v))) := Bin.addB (by split <;> simp <;> omega)
  refine Exs.ret (Ex.ret_some ?_)
  walk_at "mEv"
theorem c_commonpath (w : World) {k : Nat} (hk : 4 ≤ k) (p q : List UInt8) (hp : p.length ≤ 2000) (hq : q.length ≤ 2000) (hs : startsB 47 p = startsB 47 q) : FnN w k (Str.ofString "commonpath") [.list [.bytes p, .bytes q]] (.bytes (commonB p q)) := ((commonpath w p q hp hq hs).at (by decide) rfl).mono_k hk

/-! ## commonpath of two that start otherwise raises -/
theorem commonpathR (w : World) (p q : List UInt8) (hp : p.length ≤ 2000) (hq : q.length ≤ 2000) (hs : startsB 47 p ≠ startsB 47 q) : FnR w 4 (fnAt 22) [.list [.bytes p, .bytes q]] := by
  intro A s Q E a vs mg base outer R K G n I r hE
  refine enter [Str.ofString "paths"] [Str.ofString "sep", Str.ofString "curdir", Str.ofString "split_paths", Str.ofString "isabs", Str.ofString "c", Str.ofString "s1", Str.ofString "s2", Str.ofString "common", Str.ofString "i", Str.ofString "prefix"] R K G I r (by walk_at "mFn1") rfl (by decide +kernel) (by decide +kernel) fun cd s₁ hs₁ R' S hfr => ?_
  simp only [List.zip_cons_cons, List.zip_nil_left, List.zip_nil_right, List.map_cons, List.map_nil, List.cons_append, List.nil_append] at S
  have V : EnvOk (fnEnv (fnAt 22) s.heap.objs.size a cd) := ⟨rfl, rfl, rfl⟩
  have hnew : base.get? s.heap.objs.size = none := K.stays.fresh
  refine stepW Ex.doc R' S fun s2 S2 M2 => ?_
  refine stepW (Ex.assign (d := .tuple [.bytes p, .bytes q]) (Ev.tuplemap (xs := [p, q]) (fr := fnAt 10) (fun b => fspath w b) (mem_fns (by decide)) rfl At.here (by simp)) (by walk_at "mAt")) R' S2 fun s3 S3 M3 => ?_
  have tt : Tru w 3 (.tuple [.bytes p, .bytes q]) true := Tru.tuple (by simp)
  refine stepW (Ex.if_false (.eq (by walk_at "mTst") (by rfl)) Exs.nil) R' S3 fun s4 S4 M4 => ?_
  have u0 : Itm w 3 (.tuple [.bytes p, .bytes q]) (.int 0) (.bytes p) := Itm.tuple (j := 0) (by simp only [List.length_cons, List.length_nil]; decide) rfl (by decide) (by decide)
  refine stepW (Ex.if_true (.eq (by walk_at "mTst") (by rfl)) (Exs.cons (Ex.assign (by walk_at "mEv") (by walk_at "mAt")) (Exs.cons (Ex.assign (by walk_at "mEv") (by walk_at "mAt")) Exs.nil))) R' S4 fun s5 S5 M5 => ?_
  have M : Moves _ s₁ s5 := M2.trans (M3.trans (M4.trans M5))
  refine wpAny_execs_cons (try_pass (g := s.heap) V hfr rfl G (fun Q' E' hE' => ?_) fun e a0 h' tk x u => ?_)
  · refine stepW (Ex.comp0A D.bytes inj_bytes [p, q] (fun x => encB (splitB 47 x)) (ρ₁ := [(Str.ofString "paths", .tuple [.bytes p, .bytes q]), (Str.ofString "sep", .bytes [47]), (Str.ofString "curdir", .bytes [46]), (Str.ofString "split_paths", .list [encB (splitB 47 p), encB (splitB 47 q)]), (Str.ofString "isabs", .undef), (Str.ofString "c", .undef), (Str.ofString "s1", .undef), (Str.ofString "s2", .undef), (Str.ofString "common", .undef), (Str.ofString "i", .undef), (Str.ofString "prefix", .undef)]) (dv := .tuple [.bytes p, .bytes q]) (by walk_at "mEv") (its_tuple (by rw [sizeLine_eq]; simp)) (FreeOk.one (y := Str.ofString "sep") (by walk_at "mAt") rfl) (by simp only [List.map_cons, List.map_nil]; walk_at "mAt") (fun x hx C => ?_)) R' S5 fun s6 S6 M6 => ?_
    · have hxl : x.length ≤ 2000 := by
        rcases List.mem_cons.1 hx with rfl | hx
        · exact hp
        · rw [List.mem_singleton.1 hx]; exact hq
      walk_at "mEv"
    obtain ⟨h6, t6, rfl, -⟩ := id M6
    have st6 := stays_of S6 K.stays
    refine wpAny_execs_cons (try_again (g := s.heap) (base := base) (outer := outer) V R'.2.2 hfr rfl st6 (S6.frames K.stays K.frames hnew) G (fun Q2 E2 h2 => ?_) hE' (fun b o e => (S6.base b o e).1) (by decide +kernel))
    refine unpackSetR (F := fun d => match d with | .bytes x => startsB 47 x | _ => false) (d₁ := .bytes p) (d₂ := .bytes q) (startsB 47 p) rfl (by cases h1 : startsB 47 p <;> cases h2 : startsB 47 q <;> simp_all) (dv := .tuple [.bytes p, .bytes q]) (by walk_at "mEv") (its_tuple (by rw [sizeLine_eq]; simp)) (FreeOk.one (y := Str.ofString "sep") (by walk_at "mAt") rfl) (fun d hd C => ?_) R' S6 Q2 E2 h2
    rcases List.mem_cons.1 hd with rfl | hd
    · show Ev _ _ _ _ _ (.bool (startsB 47 p)); walk_at "mEv"
    · obtain rfl := List.mem_singleton.1 hd
      show Ev _ _ _ _ _ (.bool (startsB 47 q)); walk_at "mEv"
  · obtain ⟨h5, t5, rfl, -⟩ := id M
    obtain ⟨h1, t1, rfl⟩ := hs₁
    refine leave_held (s := { s with heap := h', toks := tk }) rfl x fun h'' y u' => ?_
    exact hE e a0 h'' tk y (u.trans u')

/-! ## _law_shared -/
theorem Cmp.neBool {w : World} {k : Nat} {a b : Bool} : Cmp w k .NotEq (.bool a) (.bool b) (a != b) := .mk2 fun N A s E v u R G al x y => by
  obtain rfl := x.val_inv
  obtain rfl := y.val_inv
  exact PyProof.Rows.ne_bool ⟨.val_mk, kRefl s⟩
theorem Op.minI {w : World} {k : Nat} {a b : Int} : Op w k (fun vs => call (.builtin "min") vs) [.int a, .int b] (.int (min a b)) := fun N A s E vs R G al r => by
  obtain ⟨v, u, rfl, x, y⟩ := r.two_inv
  obtain ⟨t, rfl⟩ := x.int_inv
  obtain ⟨t', rfl⟩ := y.int_inv
  refine min_two_ints R.2.2 fun h' tk hk => ⟨?_, kMk hk⟩
  by_cases h : b < a
  · rw [if_pos h, show min a b = b by omega]; exact .int_mk
  · rw [if_neg h, show min a b = a by omega]; exact .int_mk

def keptB (r : List Int) : Bool := r != [0] && r != [0, 0]
def keptR (rows : List (List Int)) : List (List Int) := rows.filter keptB
def commR : List (List Int) → List (List Int) → List (List Int)
  | a :: as, b :: bs => if a = b then a :: commR as bs else []
  | _, _ => []
theorem commR_lt : ∀ {u v : List (List Int)} {i : Nat}, i < (commR u v).length → ∃ r, u[i]? = some r ∧ v[i]? = some r
  | [], v, i, h => by cases v <;> simp [commR] at h
  | a :: u, [], i, h => by simp [commR] at h
  | a :: u, b :: v, i, h => by
    by_cases e : a = b
    · subst e
      cases i with
      | zero => exact ⟨a, rfl, rfl⟩
      | succ i =>
        simp only [commR, if_true, List.length_cons] at h
        obtain ⟨r, h1, h2⟩ := commR_lt (u := u) (v := v) (i := i) (by omega)
        exact ⟨r, by simpa using h1, by simpa using h2⟩
    · simp [commR, e] at h
theorem commR_at : ∀ {u v : List (List Int)} {r s : List Int}, u[(commR u v).length]? = some r → v[(commR u v).length]? = some s → r ≠ s
  | [], v, r, s, h, _ => by simp at h
  | a :: u, [], r, s, _, h => by simp at h
  | a :: u, b :: v, r, s, h1, h2 => by
    by_cases e : a = b
    · subst e
      simp only [commR, if_true, List.length_cons, List.getElem?_cons_succ] at h1 h2
      exact commR_at h1 h2
    · simp only [commR, if_neg e, List.length_nil, List.getElem?_cons_zero, Option.some.injEq] at h1 h2
      subst h1 h2; exact e
theorem commR_take : ∀ (u v : List (List Int)), u.take (commR u v).length = commR u v
  | [], v => by cases v <;> simp [commR]
  | a :: u, [] => by simp [commR]
  | a :: u, b :: v => by
    by_cases e : a = b
    · simp [commR, e, commR_take u v]
    · simp [commR, e]
theorem commR_le : ∀ (u v : List (List Int)), (commR u v).length ≤ u.length ∧ (commR u v).length ≤ v.length ∧ ∀ x ∈ commR u v, x ∈ u
  | [], v => by cases v <;> simp [commR]
  | a :: u, [] => by simp [commR]
  | a :: u, b :: v => by
    have ih := commR_le u v
    by_cases e : a = b
    · simp only [commR, if_pos e, List.length_cons, List.mem_cons]
      exact ⟨by omega, by omega, fun x hx => hx.elim .inl fun hx => .inr (ih.2.2 x hx)⟩
    · simp [commR, e]
theorem keptR_ok {rows : List (List Int)} (h : RowsOk rows) : RowsOk (keptR rows) := h.sub (List.length_filter_le _ _) fun x hx => (List.mem_filter.1 hx).1

structure SharedOk (one other : List (List Int)) (first second : List UInt8) : Prop where
  ok1 : RowsOk one
  ok2 : RowsOk other
  l1 : first.length ≤ 2000
  l2 : second.length ≤ 2000
  s1 : startsB 47 first = decide (0 < front one)
  s2 : startsB 47 second = decide (0 < front other)
  eq : decide (0 < front one) = decide (0 < front other) → commonB first second = List.replicate (min (front one) 1) 47 ++ spellB (commR (keptR one) (keptR other))

abbrev shCtx (one other : List (List Int)) (first second : List UInt8) (apart : Bool) (answer left right count : D) : Ctx :=
  [(Str.ofString "one", encR one), (Str.ofString "first", .bytes first), (Str.ofString "other", encR other), (Str.ofString "second", .bytes second), (Str.ofString "apart", .bool apart), (Str.ofString "answer", answer), (Str.ofString "left", left), (Str.ofString "right", right), (Str.ofString "count", count)]

theorem kept_test (w : World) {k : Nat} {env : Env} {ρ : Ctx} {p1 p2 p3 p4 p5 p6 q1 q2 q3 q4 k1 k2 k3} (r : List Int) :
    Tst w k env ((Str.ofString "row", encI r) :: ρ) (.BoolOp .And [.Compare (.Name (Str.ofString "row") p1) [.NotEq] [.List [.Constant (.int 0) k1 p2] p3] p4, .Compare (.Name (Str.ofString "row") p5) [.NotEq] [.List [.Constant (.int 0) k2 q1, .Constant (.int 0) k3 q2] q3] q4] p6) (keptB r) := by
  have c1 : Cmp w k .NotEq (encI r) (.list [.int 0]) (r != [0]) := cmN w r [0]
  have c2 : Cmp w k .NotEq (encI r) (.list [.int 0, .int 0]) (r != [0, 0]) := cmN w r [0, 0]
  unfold keptB
  by_cases h : r = [0]
  · exact Tst.and_false (.eq (by walk_at "mTst") (by simp [h])) |>.eq (by simp [h])
  · exact (Tst.and_true (.eq (by walk_at "mTst") (by simp [h])) (Tst.last (by walk_at "mTst"))).eq (by simp [h])

theorem law_sharedN (w : World) (one other : List (List Int)) (first second : List UInt8) (H : SharedOk one other first second) (hn : decide (0 < front one) = decide (0 < front other)) : Fn w 5 (fnAt 38) [encR one, .bytes first, encR other, .bytes second] (.bool true) := by
  refine Fn.mk [Str.ofString "one", Str.ofString "first", Str.ofString "other", Str.ofString "second"] [Str.ofString "apart", Str.ofString "answer", Str.ofString "left", Str.ofString "right", Str.ofString "count"] (by walk_at "mFn4") rfl (by decide +kernel) (by decide +kernel) fun L a cd => ?_
  walk_at "mCtx"
  have o1 := H.ok1.1
  have o2 := H.ok2.1
  have c1 := c_front w (k := 4) (by omega) one (by omega)
  have c2 := c_front w (k := 4) (by omega) other (by omega)
  have c3 := c_commonpath w (k := 4) (by omega) first second H.l1 H.l2 (by rw [H.s1, H.s2, hn])
  have nb : Cmp w 4 .NotEq (.bool (decide (((0 : Int)) < (front one : Int)))) (.bool (decide (((0 : Int)) < (front other : Int)))) (decide ((0 : Int) < (front one : Int)) != decide ((0 : Int) < (front other : Int))) := Cmp.neBool
  have hn' : (decide ((0 : Int) < (front one : Int)) != decide ((0 : Int) < (front other : Int))) = false := by
    have : decide ((0 : Int) < (front one : Int)) = decide (0 < front one) := by simp
    rw [this]
    have : decide ((0 : Int) < (front other : Int)) = decide (0 < front other) := by simp
    rw [this, hn]; simp
  rw [hn'] at nb
  walk_at "asg"
  refine Exs.cons (Ex.try (Exs.cons (Ex.assign (by walk_at "mEv") (by walk_at "mAt")) Exs.nil)) ?_
  refine Exs.cons (Ex.if_false (by walk_at "mTst") Exs.nil) ?_
  have kl : ∀ rows : List (List Int), rows.length ≤ 40 → (rows.map encI).length ≤ sizeLine := fun rows h => by rw [sizeLine_eq]; simp; omega
  refine Exs.cons (ρ' := shCtx one other first second false (.bytes (commonB first second)) (encR (keptR one)) .undef .undef) (Ex.comp1A encI inj_encI one keptB encI (by walk_at "mEv") (its_list (kl one o1)) (FreeOk.none (by decide) (by decide) (by decide)) (by change Upd _ _ (encR (keptR one)) _; walk_at "mAt") (fun r hr C => kept_test w r) (fun r hr _ C => by walk_at "mEv")) ?_
  refine Exs.cons (ρ' := shCtx one other first second false (.bytes (commonB first second)) (encR (keptR one)) (encR (keptR other)) .undef) (Ex.comp1A encI inj_encI other keptB encI (by walk_at "mEv") (its_list (kl other o2)) (FreeOk.none (by decide) (by decide) (by decide)) (by change Upd _ _ (encR (keptR other)) _; walk_at "mAt") (fun r hr C => kept_test w r) (fun r hr _ C => by walk_at "mEv")) ?_
  have k1 := keptR_ok H.ok1
  have k2 := keptR_ok H.ok2
  have h1 := H.eq hn
  rw [h1]
  generalize keptR one = u at *
  generalize keptR other = v at *
  have k1l := k1.1
  have k2l := k2.1
  have ct := commR_take u v
  have cl := commR_le u v
  have okc : RowsOk (commR u v) := k1.sub cl.1 cl.2.2
  have clt := fun i => commR_lt (u := u) (v := v) (i := i)
  have cat := fun r s => commR_at (u := u) (v := v) (r := r) (s := s)
  walk_at "asg"
  refine Exs.cons (Ex.whileN (fun i => shCtx one other first second false (.bytes (List.replicate (min (front one) 1) 47 ++ spellB (commR u v))) (encR u) (encR v) (.int (i : Int))) (commR u v).length (fun i hi => ⟨?_, ?_⟩) ?_) ?_
  · obtain ⟨r, e1, e2⟩ := clt i hi
    have i1 : Itm w 4 (encR u) (.int (i : Int)) (encI r) := Itm.listPos (by omega) (by simp [e1]) (by omega)
    have i2 : Itm w 4 (encR v) (.int (i : Int)) (encI r) := Itm.listPos (by omega) (by simp [e2]) (by omega)
    have cm : Cmp w 4 .Eq (encI r) (encI r) (r == r) := cmI w r r
    exact Tst.and_true (.eq (by walk_at "mTst") (by simp; omega)) (Tst.and_true (.eq (by walk_at "mTst") (by simp; omega)) (Tst.last (.eq (by walk_at "mTst") (by simp))))
  · refine Exs.cons (Ex.assign (by walk_at "mEv") (by walk_at "mAt")) ?_
    exact Exs.nil
  · by_cases q1 : (commR u v).length < u.length
    · by_cases q2 : (commR u v).length < v.length
      · have e1 := List.getElem?_eq_getElem q1
        have e2 := List.getElem?_eq_getElem q2
        have hne := cat _ _ e1 e2
        generalize u[(commR u v).length] = r at *
        generalize v[(commR u v).length] = s at *
        have i1 : Itm w 4 (encR u) (.int ((commR u v).length : Int)) (encI r) := Itm.listPos (by omega) (by simp [e1]) (by omega)
        have i2 : Itm w 4 (encR v) (.int ((commR u v).length : Int)) (encI s) := Itm.listPos (by omega) (by simp [e2]) (by omega)
        have cm : Cmp w 4 .Eq (encI r) (encI s) (r == s) := cmI w r s
        exact Tst.and_true (.eq (by walk_at "mTst") (by simp; omega)) (Tst.and_true (.eq (by walk_at "mTst") (by simp; omega)) (Tst.last (.eq (by walk_at "mTst") (by simpa using hne))))
      · exact Tst.and_true (.eq (by walk_at "mTst") (by simp; omega)) (Tst.and_false (.eq (by walk_at "mTst") (by simp; omega)))
    · exact Tst.and_false (.eq (by walk_at "mTst") (by simp; omega))
  · have c4 := c_spell w (k := 4) (by omega) (commR u v) 1 okc (.inl rfl)
    have sl : Sli w 4 (encR u) Option.none (some ((commR u v).length : Int)) Option.none (encR (commR u v)) := by
      have := Sli.list (w := w) (k := 4) (ds := u.map encI) (lo := Option.none) (hi := some ((commR u v).length : Int)) (by simp; omega)
      rw [cut_to, ← List.map_take, ct] at this
      exact this
    have mi : Op w 4 (fun vs => call (.builtin "min") vs) [.int (front one : Int), .int 1] (.int ((min (front one) 1 : Nat) : Int)) := Op.eq Op.minI (congrArg D.int (by omega))
    have ml : Bin w 4 .Mult (.bytes [47]) (.int ((min (front one) 1 : Nat) : Int)) (.bytes (List.replicate (min (front one) 1) 47)) := by
      have := Bin.mulB (w := w) (k := 4) (b := [47]) (n := ((min (front one) 1 : Nat) : Int)) (by simp) (by omega) (by omega) (by decide)
      simpa using this
    obtain ⟨b1, -⟩ := spellB_bound okc
    generalize spellB (commR u v) = np at *
    have ab : Bin w 4 .Add (.bytes (List.replicate (min (front one) 1) 47)) (.bytes np) (.bytes (List.replicate (min (front one) 1) 47 ++ np)) := Bin.addB (by simp; omega)
    refine Exs.ret (Ex.ret_some (.eq (by walk_at "mEv") (by simp)))

/-! ## calls of such contracts; _law_shared of two that start otherwise -/
section
variable {w : World} {O : Addr → Prop} {k : Nat} {env : Env} {ρ : Ctx} {A : Around} {s : Shared} {h₀ base : Heap} {l : List Env}

theorem callR {x : Str} {p : Pos} {e : Expr} {rest : List Expr} {pos : Pos} {f : FnRec} {ds : List D} (F : FnR w k f ds) (hf : f ∈ allFns) (hn : f.name = x) (ha : Evs w k env ρ (e :: rest) ds) (R : Room k A) (hfr : A.frames = some l) (hb : base.StaysIn s.heap) (hl : s.heap.FunFrames base l) (G : GH base)
    (S : St h₀ noN O env s.heap ρ) (Q : Value → Shared → Prop) (E : Value → Shared → Prop) (hE : ∀ e a0 h' tk, Heap.FlyingW base l e (.type "ValueError") a0 h' → s.heap.UpToSlots h' → E (.ref e) { s with heap := h', toks := tk })
    (hx : env.kindOf x = some .globalImplicit := by with_unfolding_all rfl) (hd : (x == ("__debug__" : Str)) = false := by decide) (he : starEach (e :: rest) env = (false, eval e env) :: starEach rest env := by with_unfolding_all rfl) :
    wpAny (model PG w) A (eval (.Call (.Name x p) (e :: rest) [] pos) env) Q E s := by
  obtain ⟨mg, mb, G'⟩ := S.gh
  obtain ⟨a, I⟩ := G'.fn f hf
  have I' := I
  obtain ⟨o, pm, c, doc, h1, h2, h3, h4⟩ := I'
  refine Call_ (Ev.gname S hx hd (loadGlobal_global (S.globs ▸ G'.g) (v := .ref a) (hn ▸ h1) ?_))
  refine callWith_def (o := o) h3 (wpAny_mono (ha h₀ noN O A s E pos R S) (fun vs s₁ h => ⟨kHeap h.2 _ _ h2, ?_⟩) fun _ _ x => x) he
  obtain ⟨r, h1', t1, rfl, k1⟩ := h
  refine F A { s with heap := h1', toks := t1 } Q E a vs mg base l R ⟨hfr, fun b o q => k1 b o (hb b o q), hl.of_keeps fun b o q _ => ⟨o, k1 b o q, rfl⟩⟩ G (G'.g.keeps k1) (I.keeps k1) r fun e a0 h' tk x u => ?_
  exact hE e a0 h' tk x ((Heap.UpToSlots.of_keeps k1).trans u)
theorem callU {x : Str} {p : Pos} {e : Expr} {rest : List Expr} {pos : Pos} {f : FnRec} {ds : List D} {d : D} (F : FnU w k f ds d) (hf : f ∈ allFns) (hn : f.name = x) (ha : Evs w k env ρ (e :: rest) ds) (R : Room k A) (hfr : A.frames = some l) (hb : base.StaysIn s.heap) (hl : s.heap.FunFrames base l) (G : GH base)
    (S : St h₀ noN O env s.heap ρ) (Q : Value → Shared → Prop) (E : Value → Shared → Prop) (hQ : ∀ v h' tk, Rep noN h' d v → s.heap.UpToSlots h' → base.StaysIn h' → Q v { s with heap := h', toks := tk })
    (hx : env.kindOf x = some .globalImplicit := by with_unfolding_all rfl) (hd : (x == ("__debug__" : Str)) = false := by decide) (he : starEach (e :: rest) env = (false, eval e env) :: starEach rest env := by with_unfolding_all rfl) :
    wpAny (model PG w) A (eval (.Call (.Name x p) (e :: rest) [] pos) env) Q E s := by
  obtain ⟨mg, mb, G'⟩ := S.gh
  obtain ⟨a, I⟩ := G'.fn f hf
  have I' := I
  obtain ⟨o, pm, c, doc, h1, h2, h3, h4⟩ := I'
  refine Call_ (Ev.gname S hx hd (loadGlobal_global (S.globs ▸ G'.g) (v := .ref a) (hn ▸ h1) ?_))
  refine callWith_def (o := o) h3 (wpAny_mono (ha h₀ noN O A s E pos R S) (fun vs s₁ h => ⟨kHeap h.2 _ _ h2, ?_⟩) fun _ _ x => x) he
  obtain ⟨r, h1', t1, rfl, k1⟩ := h
  refine wpAny_mono (F A { s with heap := h1', toks := t1 } E a vs mg base l R ⟨hfr, fun b o q => k1 b o (hb b o q), hl.of_keeps fun b o q _ => ⟨o, k1 b o q, rfl⟩⟩ G (G'.g.keeps k1) (I.keeps k1) r) (fun v s2 h2 => ?_) fun _ _ x => x
  obtain ⟨rv, h', tk, rfl, u, st⟩ := h2
  exact hQ v h' tk rv ((Heap.UpToSlots.of_keeps k1).trans u) st
end

theorem law_sharedA (w : World) (one other : List (List Int)) (first second : List UInt8) (H : SharedOk one other first second) (hn : decide (0 < front one) ≠ decide (0 < front other)) : FnU w 5 (fnAt 38) [encR one, .bytes first, encR other, .bytes second] (.bool true) := by
  intro A s E a vs mg base outer R K G n I r
  refine enter [Str.ofString "one", Str.ofString "first", Str.ofString "other", Str.ofString "second"] [Str.ofString "apart", Str.ofString "answer", Str.ofString "left", Str.ofString "right", Str.ofString "count"] R K G I r (by walk_at "mFn4") rfl (by decide +kernel) (by decide +kernel) fun cd s₁ hs₁ R' S hfr => ?_
  simp only [List.zip_cons_cons, List.zip_nil_right, List.map_cons, List.map_nil, List.cons_append, List.nil_append] at S
  have V : EnvOk (fnEnv (fnAt 38) s.heap.objs.size a cd) := ⟨rfl, rfl, rfl⟩
  have hnew : base.get? s.heap.objs.size = none := K.stays.fresh
  have o1 := H.ok1.1
  have o2 := H.ok2.1
  have c1 := c_front w (k := 4) (by omega) one (by omega)
  have c2 := c_front w (k := 4) (by omega) other (by omega)
  have nb : Cmp w 4 .NotEq (.bool (decide (((0 : Int)) < (front one : Int)))) (.bool (decide (((0 : Int)) < (front other : Int)))) (decide ((0 : Int) < (front one : Int)) != decide ((0 : Int) < (front other : Int))) := Cmp.neBool
  have hn' : (decide ((0 : Int) < (front one : Int)) != decide ((0 : Int) < (front other : Int))) = true := by
    have : decide ((0 : Int) < (front one : Int)) = decide (0 < front one) := by simp
    rw [this]
    have : decide ((0 : Int) < (front other : Int)) = decide (0 < front other) := by simp
    rw [this]; simpa using hn
  rw [hn'] at nb
  refine stepW (Ex.assign (by walk_at "mEv") (by walk_at "mAt")) R' S fun s2 S2 M2 => ?_
  have F := commonpathR w first second H.l1 H.l2 (by rw [H.s1, H.s2]; exact hn)
  obtain ⟨h2, t2, rfl, -⟩ := id M2
  obtain ⟨h1, t1, rfl⟩ := hs₁
  have k2 : ∀ b o, s.heap.get? b = some o → h2.get? b = some o := fun b o e => (S2.base b o e).1
  refine try_answer (base := base) (outer := outer) V R'.2.2 hfr rfl G K.stays (fun _ h => h) rfl S2 (d := .bool true) (by walk_at "mAt") rfl (fun Q' E' h => ?_) (fun v h' tk rv u st => ?_)
  · refine wpAny_Assign_Name (callR F (mem_fns (by decide)) rfl (by walk_at "mEvs") R' hfr (stays_of S2 K.stays) (S2.frames K.stays K.frames hnew) G S2 _ _ h) (by with_unfolding_all rfl)
  · exact ⟨rv, h', tk, rfl, (Heap.UpToSlots.of_keeps k2).trans u, st⟩

theorem law_shared (w : World) (one other : List (List Int)) (first second : List UInt8) (H : SharedOk one other first second) : FnU w 5 (fnAt 38) [encR one, .bytes first, encR other, .bytes second] (.bool true) := by
  by_cases hn : decide (0 < front one) = decide (0 < front other)
  · exact (law_sharedN w one other first second H hn).toU
  · exact law_sharedA w one other first second H hn

/-! ## law -/
structure LawOk (script : List Int) : Prop where
  t1 : Told (oneN script)
  t2 : Told (otherN script)
  t3 : Told (joined (oneN script) (otherN script))
  j : joinP (spellB (oneN script)) (spellB (otherN script)) = spellB (joined (oneN script) (otherN script))
  s1 : SharedOk (oneN script) (otherN script) (spellB (oneN script)) (spellB (otherN script))
  s2 : SharedOk (otherN script) (joined (oneN script) (otherN script)) (spellB (otherN script)) (spellB (joined (oneN script) (otherN script)))

theorem law_body (w : World) (script : List Int) (hl : script.length ≤ 63) (T : LawOk script) {A : Around} {s : Shared} {h₀ base : Heap} {outer : List Env} {L a : Addr} {cd : Value} {Q : Flow → Shared → Prop} {E : Value → Shared → Prop} (R : Room 5 A)
    (hfr : A.frames = some (fnEnv (fnAt 39) L a cd :: outer)) (hb0 : base.StaysIn h₀) (hl0 : h₀.FunFrames base outer) (hnew : base.get? L = none) (G : GH base)
    (S : St h₀ noN noN (fnEnv (fnAt 39) L a cd) s.heap [(Str.ofString "script", encI script), (Str.ofString "pair", .undef), (Str.ofString "one", .undef), (Str.ofString "other", .undef), (Str.ofString "first", .undef), (Str.ofString "second", .undef), (Str.ofString "both", .undef), (Str.ofString "whole", .undef)])
    (hQ : ∀ h' tk, base.StaysIn h' → Q (.ret (.bool true)) { s with heap := h', toks := tk }) : wpAny (model PG w) A (execs (fnAt 39).body (fnEnv (fnAt 39) L a cd)) Q E s := by
  have V : EnvOk (fnEnv (fnAt 39) L a cd) := ⟨rfl, rfl, rfl⟩
  have ok1 := T.t1.ok
  have ok2 := T.t2.ok
  have ok3 := T.t3.ok
  have l1 := ok1.1
  have l2 := ok2.1
  obtain ⟨b1, -⟩ := spellB_bound ok1
  obtain ⟨b2, -⟩ := spellB_bound ok2
  have c1 := ((law_two w script hl).at (x := Str.ofString "_law_two") (by decide) rfl).mono_k (show 3 ≤ 5 by omega)
  have c2 := c_spell w (k := 5) (by omega) (oneN script) (-1) ok1 (.inr rfl)
  have c3 := c_spell w (k := 5) (by omega) (otherN script) (-1) ok2 (.inr rfl)
  have c4 := c_joined w (k := 5) (by omega) (oneN script) (otherN script) T.t1.ne (by omega) (by omega)
  have c5 := c_join w (k := 5) (by omega) (spellB (oneN script)) (spellB (otherN script)) (by omega) (by omega)
  rw [T.j] at c5
  have c6 := c_told w (k := 5) (by omega) _ T.t1
  have c7 := c_told w (k := 5) (by omega) _ T.t2
  have c8 := c_told w (k := 5) (by omega) _ T.t3
  have u1 := law_shared w _ _ _ _ T.s1
  have u2 := law_shared w _ _ _ _ T.s2
  generalize joined (oneN script) (otherN script) = both at *
  generalize spellB both = whole at *
  generalize oneN script = one at *
  generalize otherN script = other at *
  generalize spellB one = first at *
  generalize spellB other = second at *
  have i0 : Itm w 5 (.list [encR one, encR other]) (.int 0) (encR one) := Itm.listPos (by omega) rfl (by omega)
  have i1 : Itm w 5 (.list [encR one, encR other]) (.int 1) (encR other) := Itm.listPos (by omega) rfl (by omega)
  refine stepW (Ex.assign (by walk_at "mEv") (by walk_at "mAt")) R S fun s2 S2 M2 => ?_
  refine stepW (Ex.assign (by walk_at "mEv") (by walk_at "mAt")) R S2 fun s3 S3 M3 => ?_
  refine stepW (Ex.assign (by walk_at "mEv") (by walk_at "mAt")) R S3 fun s4 S4 M4 => ?_
  refine stepW (Ex.assign (by walk_at "mEv") (by walk_at "mAt")) R S4 fun s5 S5 M5 => ?_
  refine stepW (Ex.assign (by walk_at "mEv") (by walk_at "mAt")) R S5 fun s6 S6 M6 => ?_
  refine stepW (Ex.assign (by walk_at "mEv") (by walk_at "mAt")) R S6 fun s7 S7 M7 => ?_
  refine stepW (Ex.assign (by walk_at "mEv") (by walk_at "mAt")) R S7 fun s8 S8 M8 => ?_
  refine stepW (Ex.if_false (Tst.or_false (.eq (by walk_at "mTst") (by rfl)) (Tst.or_false (.eq (by walk_at "mTst") (by rfl)) (Tst.last (.eq (by walk_at "mTst") (by rfl))))) Exs.nil) R S8 fun s9 S9 M9 => ?_
  have M : Moves _ s s9 := M2.trans (M3.trans (M4.trans (M5.trans (M6.trans (M7.trans (M8.trans M9))))))
  obtain ⟨h9, t9, rfl, -⟩ := id M
  have st9 := stays_of S9 hb0
  have fr9 := S9.frames hb0 hl0 hnew
  refine wpAny_execs_cons (wpAny_Return_some ?_)
  show wpAny _ A (do
    let v ← eval (.Call (.Name (Str.ofString "_law_shared") ⟨335, 11, 335, 22⟩) [.Name (Str.ofString "one") ⟨335, 23, 335, 26⟩, .Name (Str.ofString "first") ⟨335, 28, 335, 33⟩, .Name (Str.ofString "other") ⟨335, 35, 335, 40⟩, .Name (Str.ofString "second") ⟨335, 42, 335, 48⟩] [] ⟨335, 11, 335, 49⟩) (fnEnv (fnAt 39) L a cd)
    standAt ⟨335, 11, 335, 93⟩
    let t ← holding [v] (truthy v)
    match BoolOp.And, t with
    | .And, false | .Or, true => pure v
    | _, _ => eval (.Call (.Name (Str.ofString "_law_shared") ⟨335, 54, 335, 65⟩) [.Name (Str.ofString "other") ⟨335, 66, 335, 71⟩, .Name (Str.ofString "second") ⟨335, 73, 335, 79⟩, .Name (Str.ofString "both") ⟨335, 81, 335, 85⟩, .Name (Str.ofString "whole") ⟨335, 87, 335, 92⟩] [] ⟨335, 54, 335, 93⟩) (fnEnv (fnAt 39) L a cd)) _ E _
  refine wpAny_bind (callU u1 (mem_fns (by decide)) rfl (by walk_at "mEvs") R hfr st9 fr9 G S9 _ _ (fun v hA tA rA uA sA => ?_))
  obtain rfl : v = .bool true := rA.val_inv
  refine wpAny_bind (wpAny_standAt (wpAny_bind (wpAny_holding (wpAny_truthy_bool ?_))))
  have SA := S9.upto uA sA hb0 G (fun _ h => h) rfl
  have frA : hA.FunFrames base (fnEnv (fnAt 39) L a cd :: outer) := fr9.of_keeps fun b o q hn => let ⟨sl, e⟩ := uA b o q hn; ⟨_, e, rfl⟩
  refine callU (s := { s with heap := hA, toks := tA }) u2 (mem_fns (by decide)) rfl (by walk_at "mEvs") R hfr sA frA G SA _ _ (fun v hB tB rB uB sB => ?_)
  obtain rfl : v = .bool true := rB.val_inv
  exact hQ hB tB sB

/-! ## the end -/
def toFn (d : DefRec) : FnRec := ⟨d.name, d.params, d.body, d.scope⟩
theorem glb_of {p : Program} {loose : List Str} {mean : ExcName → Option Value} {mg mb : Str → Option Value} {h : Heap} (T : Top p loose mean mg mb h) (hp : (((recsOf p).drop 4).take 24).map toFn = allFns)
    (hf : freeNames.all (fun x => !startupNames.contains x && !loose.contains x && !((recsOf p).map (·.name)).contains x && !((litsOf p).map (·.1)).contains x && !((clssOf p loose).map (·.name)).contains x && !(x == ("__name__" : Str))) = true) : GH h := by
  refine ⟨mg, mb, T.g, T.b, T.nolimit, fun f hf => ?_, fun x hx => ?_⟩
  · rw [← hp] at hf
    obtain ⟨d, hd, rfl⟩ := List.mem_map.mp hf
    obtain ⟨a, o, pm, code, doc, h1, h2, h3, h4⟩ := T.fn d (List.mem_of_mem_drop (List.mem_of_mem_take hd))
    exact ⟨a, o, pm, code, doc, h1, h2, h3, h4⟩
  · have := List.all_eq_true.mp hf x hx
    simp only [Bool.and_eq_true, Bool.not_eq_true', List.contains_eq_mem, decide_eq_false_iff_not, beq_eq_false_iff_ne] at this
    obtain ⟨⟨⟨⟨⟨a1, a2⟩, a3⟩, a4⟩, a5⟩, a6⟩ := this
    exact ⟨T.free x a1 a2 a3 a4 a5, T.builtins x a6⟩

theorem reps_ints {N : Addr → Prop} {h : Heap} : ∀ {vs : List Value} {ns : List Int}, IntsAre vs ns → Reps N h (ns.map .int) vs
  | _, _, .nil => Reps.nil
  | _, _, .cons n t r => Reps.cons .int_mk (reps_ints r)

theorem law_end {p : Program} {loose : List Str} {mean0 : ExcName → Option Value} {mg mb : Str → Option Value} {w : World} {s₁ : Shared} {fa : Addr} {cd : Value} {l : Addr} {vs : List Value} {ns : List Int} {h₁ : Heap} {tk : Nat} {E : Value → Shared → Prop}
    {c : ClaimW} {cl : Str → Option Addr} {mean : ExcName → Option Value} {args : List WData}
    (T : Top p loose mean0 mg mb s₁.heap) (hp : (((recsOf p).drop 4).take 24).map toFn = allFns)
    (hf : freeNames.all (fun x => !startupNames.contains x && !loose.contains x && !((recsOf p).map (·.name)).contains x && !((litsOf p).map (·.1)).contains x && !((clssOf p loose).map (·.name)).contains x && !(x == ("__name__" : Str))) = true)
    (hL : s₁.heap.IsList l vs.toArray) (hI : IntsAre vs ns) (hlen : ns.length ≤ 63) (F : Fr s₁.heap s₁.heap.objs.size h₁ (fun x => List.lookup x [(Str.ofString "script", .ref l)])) (hg : s₁.gens = #[])
    (hr : ∀ cls, c.raises args cls = false) (hpost : c.post args (.bool true) args = true) (law : ∀ ns : List Int, ns.length ≤ 63 → LawOk ns) :
    wpAny (model PG w) (callerA.deeper (envOf (fnAt 39).name (fnAt 39).scope s₁.heap.objs.size fa cd)) (execs (fnAt 39).body (envOf (fnAt 39).name (fnAt 39).scope s₁.heap.objs.size fa cd))
      (fun f s' => GoodW c cl mean args s₁ (.ok (.ret (match f with | .ret v => v | _ => .none))) s') E { s₁ with heap := h₁, toks := tk } := by
  have G := glb_of T hp hf
  have K0 := below_caller s₁.heap
  have e : envOf (fnAt 39).name (fnAt 39).scope s₁.heap.objs.size fa cd = fnEnv (fnAt 39) s₁.heap.objs.size fa cd := by rfl
  rw [e]
  have hfresh : s₁.heap.get? s₁.heap.objs.size = none := K0.stays.fresh
  refine law_body w ns hlen (law ns hlen) (h₀ := s₁.heap) (base := s₁.heap) (outer := []) (Room.deeper ⟨by decide, by decide, rfl⟩) (Around.frames_deeper K0.stack) K0.stays trivial hfresh G ?_ fun h' tk' st => ?_
  · refine ⟨rfl, rfl, rfl, G, fun b o q => ⟨F.keep b o q, ?_⟩, fun _ h => h.elim, fun _ h => h.elim, ⟨_, F.ns⟩, fun x cc hc => (by cases hc), fun x y cc hx => (by cases hx), (by show [Str.ofString "script", Str.ofString "pair", Str.ofString "one", Str.ofString "other", Str.ofString "first", Str.ofString "second", Str.ofString "both", Str.ofString "whole"].Nodup; decide +kernel), fun e he => ?_, fun e he => ?_⟩
    · rintro (h | h)
      · rcases h with h | ⟨x, h⟩
        · subst h; exact Nat.lt_irrefl _ (Heap.lt_size q)
        · cases h
      · exact h
    · have : ([(Str.ofString "script", encI ns), (Str.ofString "pair", .undef), (Str.ofString "one", .undef), (Str.ofString "other", .undef), (Str.ofString "first", .undef), (Str.ofString "second", .undef), (Str.ofString "both", .undef), (Str.ofString "whole", .undef)] : Ctx).map (·.1) = [Str.ofString "script", Str.ofString "pair", Str.ofString "one", Str.ofString "other", Str.ofString "first", Str.ofString "second", Str.ofString "both", Str.ofString "whole"] := rfl
      have hm := List.mem_map_of_mem (f := (·.1)) he
      rw [this] at hm
      generalize e.1 = x at hm
      revert x
      decide +kernel
    · have hloc : ∀ x ∈ [Str.ofString "script", Str.ofString "pair", Str.ofString "one", Str.ofString "other", Str.ofString "first", Str.ofString "second", Str.ofString "both", Str.ofString "whole"], (fnAt 39).scope.names.lookup x = some .local := by decide +kernel
      have slot : Slot (fnEnv (fnAt 39) s₁.heap.objs.size fa cd) e.1 := .inl (hloc e.1 (by
        have hm := List.mem_map_of_mem (f := (·.1)) he
        exact hm))
      refine ⟨slot, ?_⟩
      rcases List.mem_cons.mp he with rfl | he
      · refine .rep (v := .ref l) (.inl ⟨hloc _ List.mem_cons_self, _, F.ns, rfl⟩) ?_
        obtain ⟨o, ho, hc, n, hd⟩ := hL
        exact Rep.list_mk (fun h => h) ⟨o, F.keep _ _ ho, hc, n, hd⟩ (reps_ints hI)
      · simp only [List.mem_cons, List.mem_nil_iff, or_false] at he
        rcases he with rfl | rfl | rfl | rfl | rfl | rfl | rfl <;> exact .undef
  · exact ⟨.inl ⟨.bool true, .bool true, [], rfl, hr, .bool true, hpost, unshared_nil⟩, st, rfl, hg⟩

end Mine
end

section
set_option maxRecDepth 10000
namespace Mine

/-! # the plain law -/
/-! ## words -/
theorem ap_zero : ap 0 = [] := by unfold ap; simp
theorem u8_65 (m : Nat) (h : m < 16) : (65 + m.toUInt8 : UInt8).toNat = 65 + m := by
  revert m; decide
theorem ap_mem : ∀ (n : Nat) (c : UInt8), c ∈ ap n → 65 ≤ c.toNat ∧ c.toNat ≤ 80 := by
  intro n
  induction n using Nat.strongRecOn with
  | ind n ih =>
    intro c hc
    by_cases h : n = 0
    · subst h; rw [ap_zero] at hc; cases hc
    · rw [ap_step n h] at hc
      rcases List.mem_append.1 hc with hc | hc
      · exact ih (n / 16) (by omega) c hc
      · rw [List.mem_singleton.1 hc, u8_65 _ (by omega)]; omega
theorem ap_nil {n : Nat} : ap n = [] ↔ n = 0 := by
  constructor
  · intro h
    by_cases h0 : n = 0
    · exact h0
    · rw [ap_step n h0] at h; simp at h
  · rintro rfl; exact ap_zero
theorem ap_head : ∀ n : Nat, (ap n).take 1 ≠ [65] := by
  intro n
  induction n using Nat.strongRecOn with
  | ind n ih =>
    by_cases h : n = 0
    · subst h; rw [ap_zero]; simp
    · rw [ap_step n h]
      by_cases h2 : n / 16 = 0
      · rw [h2, ap_zero]
        intro e
        simp only [List.nil_append, List.take_succ_cons, List.take_zero, List.cons.injEq, and_true] at e
        have := congrArg UInt8.toNat e
        rw [u8_65 _ (by omega)] at this
        have e65 : (65 : UInt8).toNat = 65 := rfl
        omega
      · have := ih (n / 16) (by omega)
        have hne : ap (n / 16) ≠ [] := fun e => h2 (ap_nil.1 e)
        cases e : ap (n / 16) with
        | nil => exact absurd e hne
        | cons x r => rw [e] at this; simpa using this
theorem wgo_snoc : ∀ (l : List UInt8) (c : UInt8) (v : Int), (∀ x ∈ l, 65 ≤ x.toNat ∧ x.toNat ≤ 80) → 65 ≤ c.toNat → c.toNat ≤ 80 → wgo v (l ++ [c]) = wgo v l * 16 + (c.toNat : Int) - 65
  | [], c, v, _, h1, h2 => by
    have : ¬ (c < 65 ∨ 80 < c) := by
      rw [UInt8.lt_iff_toNat_lt, UInt8.lt_iff_toNat_lt]
      have e1 : (65 : UInt8).toNat = 65 := rfl
      have e2 : (80 : UInt8).toNat = 80 := rfl
      omega
    simp only [List.nil_append, wgo, if_neg this]
  | x :: l, c, v, h, h1, h2 => by
    have hx := h x (List.mem_cons_self ..)
    have : ¬ (x < 65 ∨ 80 < x) := by
      rw [UInt8.lt_iff_toNat_lt, UInt8.lt_iff_toNat_lt]
      have e1 : (65 : UInt8).toNat = 65 := rfl
      have e2 : (80 : UInt8).toNat = 80 := rfl
      omega
    simp only [List.cons_append, wgo, if_neg this]
    exact wgo_snoc l c _ (fun y hy => h y (List.mem_cons_of_mem _ hy)) h1 h2
theorem wgo_ap : ∀ n : Nat, wgo 0 (ap n) = (n : Int) := by
  intro n
  induction n using Nat.strongRecOn with
  | ind n ih =>
    by_cases h : n = 0
    · subst h; rw [ap_zero]; rfl
    · have hm := u8_65 (n % 16) (by omega)
      rw [ap_step n h, wgo_snoc _ _ _ (ap_mem _) (by omega) (by omega), ih (n / 16) (by omega), hm]
      omega
theorem wval_ap (n : Int) (h : 0 ≤ n) : wval (ap n.natAbs) = n := by
  unfold wval
  rw [if_neg (ap_head _), wgo_ap]; omega

/-! ## splitting what is joined -/
theorem splitB_off (c : UInt8) : ∀ x : List UInt8, c ∉ x → splitB c x = [x]
  | [], _ => rfl
  | a :: x, h => by
    simp only [List.mem_cons, not_or] at h
    have := splitB_off c x h.2
    simp [splitB, Ne.symm h.1, this]
theorem splitB_at (c : UInt8) (r : List UInt8) : ∀ x : List UInt8, c ∉ x → splitB c (x ++ c :: r) = x :: splitB c r
  | [], _ => by simp [splitB]
  | a :: x, h => by
    simp only [List.mem_cons, not_or] at h
    have := splitB_at c r x h.2
    simp [splitB, Ne.symm h.1, this]
theorem splitB_join (c : UInt8) : ∀ xs : List (List UInt8), xs ≠ [] → (∀ x ∈ xs, c ∉ x) → splitB c (joinB [c] xs) = xs
  | [], h, _ => absurd rfl h
  | [x], _, h => splitB_off c x (h x (List.mem_cons_self ..))
  | x :: y :: r, _, h => by
    have := splitB_join c (y :: r) (by simp) fun z hz => h z (List.mem_cons_of_mem _ hz)
    show splitB c (x ++ [c] ++ joinB [c] (y :: r)) = _
    rw [List.append_assoc]
    show splitB c (x ++ c :: joinB [c] (y :: r)) = _
    rw [splitB_at c _ x (h x (List.mem_cons_self ..)), this]
theorem joinB_mem (c d : UInt8) : ∀ xs : List (List UInt8), d ∈ joinB [c] xs → d = c ∨ ∃ x ∈ xs, d ∈ x
  | [], h => by simp [joinB] at h
  | [x], h => .inr ⟨x, List.mem_cons_self .., h⟩
  | x :: y :: r, h => by
    simp only [joinB, List.append_assoc, List.mem_append] at h
    rcases h with h | h | h
    · exact .inr ⟨x, List.mem_cons_self .., h⟩
    · exact .inl (List.mem_singleton.1 h)
    · rcases joinB_mem c d (y :: r) h with h | ⟨z, hz, h⟩
      · exact .inl h
      · exact .inr ⟨z, List.mem_cons_of_mem _ hz, h⟩

/-- a row as the law has it -/
def Rw (r : List Int) : Prop := r ≠ [] ∧ ∀ n ∈ r, 0 ≤ n
def Rws (rows : List (List Int)) : Prop := rows ≠ [] ∧ ∀ r ∈ rows, Rw r

theorem ap_no {c : UInt8} (h : c.toNat < 65) (n : Nat) : c ∉ ap n := fun hc => by
  have := ap_mem n c hc; omega
theorem rowB_mem {r : List Int} {c : UInt8} (h : c ∈ rowB r) : c = 46 ∨ 65 ≤ c.toNat := by
  rcases joinB_mem 46 c _ h with h | ⟨x, hx, hc⟩
  · exact .inl h
  · obtain ⟨n, _, rfl⟩ := List.mem_map.1 hx
    exact .inr (ap_mem _ c hc).1
theorem rowB_no47 (r : List Int) : (47 : UInt8) ∉ rowB r := fun h => by
  rcases rowB_mem h with h | h
  · cases h
  · have : (47 : UInt8).toNat = 47 := rfl
    omega
theorem rowB_split {r : List Int} (h : r ≠ []) : splitB 46 (rowB r) = r.map fun n => ap n.natAbs :=
  splitB_join 46 _ (by simpa using h) fun x hx => by
    obtain ⟨n, _, rfl⟩ := List.mem_map.1 hx
    exact ap_no (by decide) _
theorem map_wval {r : List Int} (h : ∀ n ∈ r, 0 ≤ n) : (r.map fun n => ap n.natAbs).map wval = r := by
  rw [List.map_map]
  calc _ = r.map id := List.map_congr_left fun n hn => wval_ap n (h n hn)
    _ = r := List.map_id r
theorem rowB_read {r : List Int} (h : Rw r) : (splitB 46 (rowB r)).map wval = r := by
  rw [rowB_split h.1, map_wval h.2]
theorem rowB_inj {r s : List Int} (hr : Rw r) (hs : Rw s) (h : rowB r = rowB s) : r = s := by
  rw [← rowB_read hr, ← rowB_read hs, h]
theorem spellB_split {rows : List (List Int)} (h : rows ≠ []) : splitB 47 (spellB rows) = rows.map rowB :=
  splitB_join 47 _ (by simpa using h) fun x hx => by
    obtain ⟨r, _, rfl⟩ := List.mem_map.1 hx
    exact rowB_no47 r
theorem read_spell {rows : List (List Int)} (h : Rws rows) : readB (spellB rows) = rows := by
  unfold readB
  rw [spellB_split h.1, List.map_map]
  calc _ = rows.map id := List.map_congr_left fun r hr => rowB_read (h.2 r hr)
    _ = rows := List.map_id rows
theorem rw0 : Rw [0] := ⟨by simp, by simp⟩
theorem rw00 : Rw [0, 0] := ⟨by simp, by simp⟩
theorem rw000 : Rw [0, 0, 0] := ⟨by simp, by simp⟩
theorem rowB0 : rowB [0] = [] := by simp [rowB, joinB, ap_zero]
theorem rowB00 : rowB [0, 0] = [46] := by simp [rowB, joinB, ap_zero]
theorem rowB000 : rowB [0, 0, 0] = [46, 46] := by simp [rowB, joinB, ap_zero]
theorem rowB_nil {r : List Int} (h : Rw r) : rowB r = [] ↔ r = [0] := ⟨fun e => rowB_inj h rw0 (e.trans rowB0.symm), fun e => e ▸ rowB0⟩
theorem rowB_dot {r : List Int} (h : Rw r) : rowB r = [46] ↔ r = [0, 0] := ⟨fun e => rowB_inj h rw00 (e.trans rowB00.symm), fun e => e ▸ rowB00⟩
theorem rowB_dots {r : List Int} (h : Rw r) : rowB r = [46, 46] ↔ r = [0, 0, 0] := ⟨fun e => rowB_inj h rw000 (e.trans rowB000.symm), fun e => e ▸ rowB000⟩

/-! ## how a path begins, and ends -/
theorem spell_cons (r s : List Int) (rows : List (List Int)) : spellB (r :: s :: rows) = rowB r ++ 47 :: spellB (s :: rows) := by
  simp [spellB, joinB]
theorem spell_one (r : List Int) : spellB [r] = rowB r := rfl
theorem joinB_snoc (c : UInt8) (x : List UInt8) : ∀ xs : List (List UInt8), xs ≠ [] → joinB [c] (xs ++ [x]) = joinB [c] xs ++ c :: x
  | [], h => absurd rfl h
  | [y], _ => by simp [joinB]
  | y :: z :: r, _ => by
    have := joinB_snoc c x (z :: r) (by simp)
    simp only [List.cons_append] at this ⊢
    simp [joinB, this]
theorem spell_snoc {rows : List (List Int)} (h : rows ≠ []) (r : List Int) : spellB (rows ++ [r]) = spellB rows ++ 47 :: rowB r := by
  unfold spellB
  rw [List.map_append]
  exact joinB_snoc 47 (rowB r) _ (by simpa using h)
theorem joinB_app (c : UInt8) : ∀ xs ys : List (List UInt8), xs ≠ [] → ys ≠ [] → joinB [c] (xs ++ ys) = joinB [c] xs ++ c :: joinB [c] ys
  | [], _, h, _ => absurd rfl h
  | [x], y :: ys, _, _ => by simp [joinB]
  | [x], [], _, h => absurd rfl h
  | x :: z :: r, ys, _, h => by
    have := joinB_app c (z :: r) ys (by simp) h
    simp only [List.cons_append] at this ⊢
    simp [joinB, this]
theorem spell_app {as bs : List (List Int)} (h1 : as ≠ []) (h2 : bs ≠ []) : spellB (as ++ bs) = spellB as ++ 47 :: spellB bs := by
  unfold spellB
  rw [List.map_append]
  exact joinB_app 47 _ _ (by simpa using h1) (by simpa using h2)

theorem head_row {r : List Int} (h : Rw r) (h0 : r ≠ [0]) : ∃ c t, rowB r = c :: t ∧ c ≠ 47 := by
  cases e : rowB r with
  | nil => exact absurd ((rowB_nil h).1 e) h0
  | cons c t => exact ⟨c, t, rfl, fun q => rowB_no47 r (by rw [e, q]; exact List.mem_cons_self ..)⟩
theorem last_row {r : List Int} (h : Rw r) (h0 : r ≠ [0]) : ∃ t c, rowB r = t ++ [c] ∧ c ≠ 47 := by
  have hne : rowB r ≠ [] := fun e => h0 ((rowB_nil h).1 e)
  refine ⟨(rowB r).dropLast, (rowB r).getLast hne, (List.dropLast_concat_getLast hne).symm, fun q => rowB_no47 r ?_⟩
  rw [← q]; exact List.getLast_mem hne

theorem front_cons0 (s : List Int) (rows : List (List Int)) : front ([0] :: s :: rows) = front (s :: rows) + 1 := by simp [front]
theorem front_ne {r : List Int} (h : r ≠ [0]) (rows : List (List Int)) : front (r :: rows) = 0 := by
  cases rows <;> simp [front, h]
theorem take1 {rows : List (List Int)} (h : Rws rows) : (spellB rows).take 1 = [47] ↔ 0 < front rows := by
  match rows, h with
  | [r], h =>
    rw [spell_one]
    constructor
    · intro e
      cases e' : rowB r with
      | nil => rw [e'] at e; cases e
      | cons c t =>
        rw [e'] at e
        have : c = 47 := by simpa using e
        exact absurd (by rw [e', this]; exact List.mem_cons_self ..) (rowB_no47 r)
    · intro h; simp [front] at h
  | r :: s :: rows, h =>
    rw [spell_cons]
    by_cases h0 : r = [0]
    · subst h0
      rw [rowB0, front_cons0]; simp
    · obtain ⟨c, t, e, hc⟩ := head_row (h.2 r (List.mem_cons_self ..)) h0
      rw [e, front_ne h0]; simp [hc]
theorem starts_take (p : List UInt8) : startsB 47 p = decide (p.take 1 = [47]) := by
  unfold startsB
  cases p with
  | nil => rfl
  | cons c t =>
    show (some c == some 47) = decide ([c] = [47])
    by_cases hc : c = 47
    · subst hc; rfl
    · have h1 : ((some c : Option UInt8) == some 47) = false := by simpa using hc
      rw [h1]; symm; simpa using hc
theorem starts_spell {rows : List (List Int)} (h : Rws rows) : startsB 47 (spellB rows) = decide (0 < front rows) := by
  rw [starts_take, decide_eq_decide]; exact take1 h
end Mine
end

section
set_option maxRecDepth 10000
namespace Mine

theorem rws_tail {r s : List Int} {rows : List (List Int)} (h : Rws (r :: s :: rows)) : Rws (s :: rows) := ⟨by simp, fun x hx => h.2 x (List.mem_cons_of_mem _ hx)⟩
theorem front_pos : ∀ {rows : List (List Int)}, 0 < front rows → ∃ s rest, rows = [0] :: s :: rest
  | [], h => by simp [front] at h
  | [_], h => by simp [front] at h
  | r :: s :: rest, h => by
    by_cases h0 : r = [0]
    · exact ⟨s, rest, by rw [h0]⟩
    · rw [front_ne h0] at h; omega

/-! ## splitroot -/
theorem root_spell {rows : List (List Int)} (h : Rws rows) : sroot (spellB rows) = (List.replicate (slN rows) 47, spellB (rows.drop (slN rows))) := by
  unfold sroot slN
  by_cases h1 : 0 < front rows
  · rw [if_pos ((take1 h).2 h1)]
    obtain ⟨s, rest, rfl⟩ := front_pos h1
    have h' := rws_tail h
    have e1 : spellB ([0] :: s :: rest) = 47 :: spellB (s :: rest) := by rw [spell_cons, rowB0]; rfl
    rw [e1, front_cons0]
    by_cases h2 : 0 < front (s :: rest)
    · obtain ⟨s2, rest2, e⟩ := front_pos h2
      have q2 := (take1 h').2 h2
      rw [e] at h' h2 q2 ⊢
      have h'' := rws_tail h'
      have e2 : spellB ([0] :: s2 :: rest2) = 47 :: spellB (s2 :: rest2) := by rw [spell_cons, rowB0]; rfl
      rw [front_cons0]
      rw [e2]
      have q3 := take1 h''
      by_cases h3 : 0 < front (s2 :: rest2)
      · rw [if_neg (fun q => q.2 (q3.2 h3)), if_pos (by omega)]
        show (([47] : List UInt8), 47 :: spellB (s2 :: rest2)) = (_, spellB ([0] :: s2 :: rest2))
        rw [e2]; rfl
      · rw [if_pos ⟨rfl, fun q => h3 (q3.1 q)⟩, if_neg (by omega), show front (s2 :: rest2) = 0 by omega]
        rfl
    · have q2 := take1 h'
      rw [if_neg (fun q => h2 (q2.1 q.1)), if_neg (by omega), show front (s :: rest) = 0 by omega]
      rfl
  · rw [if_neg (fun q => h1 ((take1 h).1 q)), if_neg (by omega), show front rows = 0 by omega]
    rfl

/-! ## split -/
theorem dropW_app {α : Type} (q : α → Bool) (b : List α) : ∀ a : List α, (∀ x ∈ a, q x = true) → (a ++ b).dropWhile q = b.dropWhile q
  | [], _ => rfl
  | x :: a, h => by
    rw [List.cons_append, List.dropWhile_cons, if_pos (h x (List.mem_cons_self ..))]
    exact dropW_app q b a fun y hy => h y (List.mem_cons_of_mem _ hy)
theorem lastOf_app (c : UInt8) (h t : List UInt8) (ht : c ∉ t) : lastOf c (h ++ t) = lastOf c h := by
  unfold lastOf
  rw [List.reverse_append, dropW_app]
  intro x hx
  simp only [bne_iff_ne, ne_eq]
  rintro rfl
  exact ht (List.mem_reverse.1 hx)
theorem lastOf_end (c : UInt8) (h : List UInt8) : lastOf c (h ++ [c]) = h.length + 1 := by
  unfold lastOf
  rw [List.reverse_append]
  simp
theorem lastOf_at (c : UInt8) (h t : List UInt8) (ht : c ∉ t) : lastOf c (h ++ c :: t) = h.length + 1 := by
  have : h ++ c :: t = (h ++ [c]) ++ t := by simp
  rw [this, lastOf_app c _ t ht, lastOf_end]

def preB (init : List (List Int)) : List UInt8 := if init = [] then [] else spellB init ++ [47]
theorem spell_pre (init : List (List Int)) (x : List Int) : spellB (init ++ [x]) = preB init ++ rowB x := by
  unfold preB
  by_cases h : init = []
  · subst h; rfl
  · rw [if_neg h, spell_snoc h]; simp
theorem last_pre (init : List (List Int)) (x : List Int) : lastOf 47 (spellB (init ++ [x])) = (preB init).length := by
  rw [spell_pre, lastOf_app 47 _ _ (rowB_no47 x)]
  unfold preB
  by_cases h : init = []
  · rw [if_pos h]; rfl
  · rw [if_neg h, lastOf_end]; simp

theorem strip_spec (rows : List (List Int)) : ∃ k, rows = stripZ rows ++ List.replicate k [0] ∧ ∀ s r, stripZ rows = s ++ [r] → r ≠ [0] := by
  have key : ∀ l : List (List Int), ∃ k, l = List.replicate k [0] ++ l.dropWhile (· == [0]) ∧ ∀ r s, l.dropWhile (· == [0]) = r :: s → r ≠ [0] := by
    intro l
    induction l with
    | nil => exact ⟨0, rfl, fun r s h => by cases h⟩
    | cons x l ih =>
      obtain ⟨k, h1, h2⟩ := ih
      by_cases hx : x = [0]
      · refine ⟨k + 1, ?_, fun r s e => h2 r s (by rw [← e, List.dropWhile_cons, if_pos (by simp [hx])])⟩
        rw [List.dropWhile_cons, if_pos (by simp [hx]), hx, List.replicate_succ, List.cons_append, ← h1]
      · refine ⟨0, ?_, fun r s e => ?_⟩
        · rw [List.dropWhile_cons, if_neg (by simpa using hx)]; rfl
        · rw [List.dropWhile_cons, if_neg (by simpa using hx)] at e
          cases e; exact hx
  obtain ⟨k, h1, h2⟩ := key rows.reverse
  refine ⟨k, ?_, fun s r e => ?_⟩
  · have := congrArg List.reverse h1
    rw [List.reverse_reverse, List.reverse_append, List.reverse_replicate] at this
    exact this
  · refine h2 r s.reverse ?_
    have := congrArg List.reverse e
    unfold stripZ at this
    rw [List.reverse_reverse, List.reverse_append] at this
    simpa using this
theorem spell_pad {rows : List (List Int)} (h : rows ≠ []) : ∀ k, spellB (rows ++ List.replicate k [0]) = spellB rows ++ List.replicate k 47
  | 0 => by simp
  | k + 1 => by
    rw [List.replicate_succ', ← List.append_assoc, spell_snoc (by simp [h]), spell_pad h k, rowB0, List.replicate_succ', List.append_assoc]
theorem spell_zeros (k : Nat) : spellB (List.replicate (k + 1) [0]) = List.replicate k 47 := by
  have := spell_pad (rows := [[0]]) (by simp) k
  rw [List.replicate_succ]
  simpa [spell_one, rowB0] using this
theorem rstrip_pad (c : UInt8) (t : List UInt8) (d : UInt8) (hd : d ≠ c) (k : Nat) : rstripB c (t ++ [d] ++ List.replicate k c) = t ++ [d] := by
  unfold rstripB
  rw [List.reverse_append, List.reverse_replicate, dropW_app]
  · rw [List.reverse_append]
    show (List.dropWhile _ (d :: t.reverse)).reverse = _
    rw [List.dropWhile_cons, if_neg (by simpa using hd)]
    simp
  · intro x hx
    rw [(List.mem_replicate.1 hx).2]; simp
theorem last_spell {s : List (List Int)} {r : List Int} (hr : Rw r) (h0 : r ≠ [0]) : ∃ t d, spellB (s ++ [r]) = t ++ [d] ∧ d ≠ 47 := by
  obtain ⟨t, d, e, hd⟩ := last_row hr h0
  exact ⟨preB s ++ t, d, by rw [spell_pre, e, List.append_assoc], hd⟩

theorem snoc_of {α : Type} {l : List α} (h : l ≠ []) : ∃ r x, l = r ++ [x] := ⟨l.dropLast, l.getLast h, (List.dropLast_concat_getLast h).symm⟩

/-- split of a path from its parts -/
theorem psplit_pre (h t : List UInt8) (ht : (47 : UInt8) ∉ t) (hl : lastOf 47 (h ++ t) = h.length) : psplit (h ++ t) = (if h ≠ [] ∧ h ≠ List.replicate h.length 47 then rstripB 47 h else h, t) := by
  unfold psplit
  rw [hl, List.take_left, List.drop_left]

theorem split_spell {rows : List (List Int)} (h : Rws rows) : psplit (spellB rows) = halves rows := by
  obtain ⟨init, last, rfl⟩ := snoc_of h.1
  have hl := last_pre init last
  rw [spell_pre] at hl
  rw [spell_pre, psplit_pre _ _ (rowB_no47 last) hl]
  unfold halves
  rw [List.dropLast_concat, show (init ++ [last]).length - 1 = init.length by simp, List.drop_left, spell_one]
  congr 1
  by_cases h0 : init = []
  · subst h0
    simp [preB, stripZ, spellB, joinB, rowB0]
  · have hp : preB init = spellB init ++ [47] := by unfold preB; rw [if_neg h0]
    obtain ⟨k, e1, e2⟩ := strip_spec init
    by_cases hs : stripZ init = []
    · rw [if_pos hs]
      rw [hs, List.nil_append] at e1
      have hk : ∃ j, k = j + 1 := by
        cases k with
        | zero => exact absurd e1 h0
        | succ j => exact ⟨j, rfl⟩
      obtain ⟨j, rfl⟩ := hk
      have hq : preB init = List.replicate (j + 1) 47 := by rw [hp, e1, spell_zeros, List.replicate_succ']
      rw [hq, if_neg (fun q => q.2 (by simp))]
      have hlen : (init ++ [last]).length = j + 1 + 1 := by rw [e1]; simp
      rw [hlen, spell_zeros]
    · rw [if_neg hs]
      obtain ⟨s, r, e3⟩ := snoc_of hs
      have hr : r ≠ [0] := e2 s r e3
      have hmem : r ∈ init := by rw [e1, e3]; simp
      have hrw : Rw r := h.2 r (List.mem_append_left _ hmem)
      obtain ⟨t, d, e4, hd⟩ := last_spell (s := s) hrw hr
      have hq : preB init = t ++ [d] ++ List.replicate (k + 1) 47 := by
        rw [hp]
        conv => lhs; rw [e1]
        rw [spell_pad hs, e3, e4, List.append_assoc, ← List.replicate_succ']
      have hne : ¬ (t ++ [d] ++ List.replicate (k + 1) (47 : UInt8) = List.replicate (t ++ [d] ++ List.replicate (k + 1) (47 : UInt8)).length (47 : UInt8)) := fun q => by
        have : d ∈ List.replicate (t ++ [d] ++ List.replicate (k + 1) (47 : UInt8)).length (47 : UInt8) := by
          rw [← q]; simp
        exact hd (List.mem_replicate.1 this).2
      rw [hq, if_pos ⟨by simp, hne⟩, rstrip_pad 47 t d hd, e3, e4]

/-! ## splitext -/
theorem any_ap (n : Int) (h : 0 ≤ n) : (ap n.natAbs).any (· != 46) = decide (0 < n) := by
  by_cases h0 : n = 0
  · subst h0; simp [ap_zero]
  · have hne : ap n.natAbs ≠ [] := fun e => h0 (by have := ap_nil.1 e; omega)
    rw [show decide (0 < n) = true by simp; omega]
    cases e : ap n.natAbs with
    | nil => exact absurd e hne
    | cons c t =>
      have := (ap_mem n.natAbs c (by rw [e]; exact List.mem_cons_self ..)).1
      have hc : c ≠ 46 := by rintro rfl; exact absurd this (by decide)
      simp [hc]
theorem any_row : ∀ m : List Int, (∀ n ∈ m, 0 ≤ n) → (rowB m).any (· != 46) = decide (0 < m.sum)
  | [], _ => by simp [rowB, joinB]
  | [n], h => by
    have := any_ap n (h n (List.mem_cons_self ..))
    simpa [rowB, joinB] using this
  | n :: x :: r, h => by
    have h1 := any_ap n (h n (List.mem_cons_self ..))
    have hr : ∀ y ∈ x :: r, 0 ≤ y := fun y hy => h y (List.mem_cons_of_mem _ hy)
    have h2 := any_row (x :: r) hr
    have e : rowB (n :: x :: r) = ap n.natAbs ++ ([46] ++ rowB (x :: r)) := by simp [rowB, joinB]
    have hs : 0 ≤ (x :: r).sum := by
      clear h2 e h1
      generalize x :: r = l at hr
      induction l with
      | nil => simp
      | cons a l ih =>
        have := ih fun y hy => hr y (List.mem_cons_of_mem _ hy)
        have := hr a (List.mem_cons_self ..)
        simp only [List.sum_cons]; omega
    have hn := h n (List.mem_cons_self ..)
    have hsum : (n :: x :: r).sum = n + (x :: r).sum := List.sum_cons
    rw [e, List.any_append, List.any_append, h1, h2, hsum]
    simp only [List.any_cons, List.any_nil, bne_self_eq_false, Bool.or_false, Bool.false_or]
    rw [← Bool.decide_or, decide_eq_decide]
    omega
theorem row_snoc {m : List Int} (h : m ≠ []) (x : Int) : rowB (m ++ [x]) = rowB m ++ 46 :: ap x.natAbs := by
  unfold rowB
  rw [List.map_append]
  exact joinB_snoc 46 _ _ (by simpa using h)

theorem ext_spell {rows : List (List Int)} (h : Rws rows) : psx (spellB rows) = ending rows := by
  obtain ⟨init, last, rfl⟩ := snoc_of h.1
  have hlast := h.2 last (by simp)
  obtain ⟨m, x, rfl⟩ := snoc_of hlast.1
  have hl := last_pre init (m ++ [x])
  unfold psx ending
  rw [List.getLastD_concat, List.dropLast_concat, List.dropLast_concat, List.getLastD_concat, hl]
  have hm : ∀ n ∈ m, 0 ≤ n := fun n hn => hlast.2 n (List.mem_append_left _ hn)
  by_cases h0 : m = []
  · subst h0
    have : lastOf 46 (spellB (init ++ [[] ++ [x]])) ≤ (preB init).length := by
      have hx : (46 : UInt8) ∉ rowB ([] ++ [x]) := by
        have : rowB ([] ++ [x]) = ap x.natAbs := by simp [rowB, joinB]
        rw [this]; exact ap_no (by decide) _
      rw [spell_pre, lastOf_app 46 _ _ hx]
      exact lastOf_le 46 _
    rw [if_neg (fun q => by omega), if_neg (by simp)]
  · have e : spellB (init ++ [m ++ [x]]) = (preB init ++ rowB m) ++ 46 :: ap x.natAbs := by
      rw [spell_pre, row_snoc h0, List.append_assoc]
    have e2 : lastOf 46 (spellB (init ++ [m ++ [x]])) = (preB init ++ rowB m).length + 1 := by
      rw [e, lastOf_at 46 _ _ (ap_no (by decide) _)]
    rw [e2, e, Nat.add_sub_cancel, List.take_left, List.drop_left, List.drop_left, any_row m hm]
    have e3 : spellB [[0, x]] = 46 :: ap x.natAbs := by simp [spellB, rowB, joinB, ap_zero]
    by_cases hs : 0 < m.sum
    · rw [if_pos ⟨by simp; omega, by simpa using hs⟩, if_pos hs, spell_pre, e3]
    · rw [if_neg (fun q => hs (by simpa using q.2)), if_neg hs]
end Mine
end

section
set_option maxRecDepth 10000
namespace Mine

/-! ## normpath -/
abbrev ddR : List Int := [0, 0, 0]
def rstep (b : Bool) (new : List (List Int)) (r : List Int) : List (List Int) :=
  if r = [0] ∨ r = [0, 0] then new else if r ≠ ddR ∨ (b = false ∧ new = []) ∨ new.getLast? = some ddR then new ++ [r] else new.dropLast

theorem nstep_map {sl : List UInt8} {b : Bool} (hb : b = false ↔ sl = []) {new : List (List Int)} (hn : ∀ x ∈ new, Rw x) {r : List Int} (hr : Rw r) : nstep sl (new.map rowB) (rowB r) = (rstep b new r).map rowB := by
  have e1 : (rowB r = [] ∨ rowB r = [46]) ↔ (r = [0] ∨ r = [0, 0]) := by rw [rowB_nil hr, rowB_dot hr]
  have e2 : rowB r ≠ [46, 46] ↔ r ≠ ddR := not_congr (rowB_dots hr)
  have e3 : ((new.map rowB).getLast? = some [46, 46]) ↔ new.getLast? = some ddR := by
    rw [List.getLast?_map]
    cases e : new.getLast? with
    | none => simp
    | some x =>
      have hx : Rw x := hn x (List.mem_of_getLast? e)
      simp only [Option.map_some, Option.some.injEq]
      exact rowB_dots hx
  have e4 : (sl = [] ∧ new.map rowB = []) ↔ (b = false ∧ new = []) := by rw [hb]; simp
  unfold nstep rstep
  by_cases h1 : r = [0] ∨ r = [0, 0]
  · rw [if_pos (e1.2 h1), if_pos h1]
  · rw [if_neg (fun q => h1 (e1.1 q)), if_neg h1]
    by_cases h2 : r ≠ ddR ∨ (b = false ∧ new = []) ∨ new.getLast? = some ddR
    · rw [if_pos h2, if_pos (by rw [e2, e3, e4]; exact h2)]
      simp
    · rw [if_neg h2, if_neg (by rw [e2, e3, e4]; exact h2)]
      simp
theorem rstep_rw {b : Bool} {new : List (List Int)} (hn : ∀ x ∈ new, Rw x) {r : List Int} (hr : Rw r) : ∀ x ∈ rstep b new r, Rw x := by
  intro x hx
  unfold rstep at hx
  split at hx
  · exact hn x hx
  · split at hx
    · rcases List.mem_append.1 hx with h | h
      · exact hn x h
      · rw [List.mem_singleton.1 h]; exact hr
    · exact hn x (List.dropLast_subset _ hx)
theorem nfold_map {sl : List UInt8} {b : Bool} (hb : b = false ↔ sl = []) : ∀ (rows new : List (List Int)), (∀ x ∈ new, Rw x) → (∀ x ∈ rows, Rw x) → (rows.map rowB).foldl (nstep sl) (new.map rowB) = (rows.foldl (rstep b) new).map rowB
  | [], _, _, _ => rfl
  | r :: rows, new, hn, hr => by
    have h0 := hr r (List.mem_cons_self ..)
    rw [List.map_cons, List.foldl_cons, List.foldl_cons, nstep_map hb hn h0]
    exact nfold_map hb rows _ (rstep_rw hn h0) fun x hx => hr x (List.mem_cons_of_mem _ hx)

/-- debts and names, from behind -/
def back (rows : List (List Int)) : Nat × List (List Int) := rows.foldr (fun r s => nmStep s r) (0, [])
theorem back_eq (rows : List (List Int)) : rows.reverse.foldl nmStep (0, []) = back rows := by
  unfold back; rw [List.foldl_reverse]
theorem back_cons (r : List Int) (rows : List (List Int)) : back (r :: rows) = nmStep (back rows) r := rfl
theorem back_zeros (rows : List (List Int)) : ∀ k, back (List.replicate k [0] ++ rows) = back rows
  | 0 => rfl
  | k + 1 => by
    rw [List.replicate_succ, List.cons_append, back_cons, back_zeros rows k]
    unfold nmStep
    rw [if_neg (by decide), if_neg (by simp)]
theorem back_mem : ∀ (rows : List (List Int)) (x : List Int), x ∈ (back rows).2 → x ∈ rows ∧ x ≠ [0] ∧ x ≠ [0, 0] ∧ x ≠ ddR
  | [], x, h => by cases h
  | r :: rows, x, h => by
    have ih := back_mem rows x
    rw [back_cons] at h
    unfold nmStep at h
    split at h
    · exact ⟨List.mem_cons_of_mem _ (ih h).1, (ih h).2⟩
    · rename_i hd
      split at h
      · rename_i hz
        split at h
        · exact ⟨List.mem_cons_of_mem _ (ih h).1, (ih h).2⟩
        · rcases List.mem_cons.1 h with rfl | h
          · exact ⟨List.mem_cons_self .., hz.1, hz.2, hd⟩
          · exact ⟨List.mem_cons_of_mem _ (ih h).1, (ih h).2⟩
      · exact ⟨List.mem_cons_of_mem _ (ih h).1, (ih h).2⟩

theorem take_snoc_le {α : Type} (l : List α) (x : α) (n : Nat) (h : n ≤ l.length) : (l ++ [x]).take n = l.take n := List.take_append_of_le_length h
theorem rep_last (k : Nat) (hk : k ≠ 0) : (List.replicate k ddR).getLast? = some ddR := by
  cases k with
  | zero => exact absurd rfl hk
  | succ k => rw [List.replicate_succ']; simp

theorem rfold : ∀ (rows : List (List Int)) (b : Bool) (k : Nat) (ns : List (List Int)), (b = true → k = 0) → (∀ x ∈ ns, x ≠ ddR) →
    rows.foldl (rstep b) (List.replicate k ddR ++ ns) = List.replicate (if b = true then 0 else k + ((back rows).1 - ns.length)) ddR ++ ns.take (ns.length - (back rows).1) ++ (back rows).2
  | [], b, k, ns, hb, _ => by
    have e : back [] = (0, []) := rfl
    rw [e]
    dsimp only
    have : (if b = true then 0 else k + (0 - ns.length)) = k := by
      split
      · rename_i h; exact (hb h).symm
      · omega
    rw [this, Nat.sub_zero, List.take_length, List.append_nil]
    rfl
  | r :: rows, b, k, ns, hb, hns => by
    rw [List.foldl_cons, back_cons]
    have ih := fun k ns h1 h2 => rfold rows b k ns h1 h2
    generalize back rows = s at ih
    obtain ⟨d, kept⟩ := s
    dsimp only at ih
    by_cases h0 : r = [0] ∨ r = [0, 0]
    · have e1 : rstep b (List.replicate k ddR ++ ns) r = List.replicate k ddR ++ ns := by unfold rstep; rw [if_pos h0]
      have e2 : nmStep (d, kept) r = (d, kept) := by
        unfold nmStep
        rw [if_neg (by rcases h0 with rfl | rfl <;> decide), if_neg (by rcases h0 with rfl | rfl <;> simp)]
      rw [e1, e2, ih k ns hb hns]
    · by_cases hd : r = ddR
      · have e2 : nmStep (d, kept) r = (d + 1, kept) := by unfold nmStep; rw [if_pos hd]
        rw [e2]
        dsimp only
        by_cases hn : ns = []
        · subst hn
          cases b with
          | true =>
            have hk := hb rfl
            subst hk
            have e1 : rstep true (List.replicate 0 ddR ++ []) r = List.replicate 0 ddR ++ [] := by
              unfold rstep; rw [if_neg h0, if_neg (by simp [hd])]; rfl
            rw [e1, ih 0 [] hb hns]
            simp
          | false =>
            have e1 : rstep false (List.replicate k ddR ++ []) r = List.replicate (k + 1) ddR ++ [] := by
              unfold rstep
              rw [if_neg h0, if_pos ?_]
              · rw [hd, List.append_nil, List.append_nil, List.replicate_succ']
              · by_cases hk : k = 0
                · subst hk; exact .inr (.inl ⟨rfl, rfl⟩)
                · refine .inr (.inr ?_)
                  rw [List.append_nil]; exact rep_last k hk
            rw [e1, ih (k + 1) [] (by simp) hns]
            have : k + 1 + (d - ([] : List (List Int)).length) = k + (d + 1 - ([] : List (List Int)).length) := by simp only [List.length_nil]; omega
            simp only [Bool.false_eq_true, if_false, this]
            simp
        · obtain ⟨ns', x, rfl⟩ := snoc_of hn
          have hx : x ≠ ddR := hns x (by simp)
          have e1 : rstep b (List.replicate k ddR ++ (ns' ++ [x])) r = List.replicate k ddR ++ ns' := by
            unfold rstep
            rw [if_neg h0, if_neg ?_, ← List.append_assoc, List.dropLast_concat]
            rw [← List.append_assoc]
            rintro (h | h | h)
            · exact h hd
            · simp at h
            · rw [List.getLast?_concat] at h
              exact hx (Option.some.inj h)
          rw [e1, ih k ns' hb fun y hy => hns y (List.mem_append_left _ hy)]
          have e3 : (ns' ++ [x]).length = ns'.length + 1 := by simp
          rw [e3, show ns'.length + 1 - (d + 1) = ns'.length - d by omega, take_snoc_le _ _ _ (by omega), show d + 1 - (ns'.length + 1) = d - ns'.length by omega]
      · have e1 : rstep b (List.replicate k ddR ++ ns) r = List.replicate k ddR ++ (ns ++ [r]) := by
          unfold rstep; rw [if_neg h0, if_pos (.inl hd), List.append_assoc]
        have hns' : ∀ x ∈ ns ++ [r], x ≠ ddR := fun x hx => by
          rcases List.mem_append.1 hx with h | h
          · exact hns x h
          · rw [List.mem_singleton.1 h]; exact hd
        have e3 : (ns ++ [r]).length = ns.length + 1 := by simp
        rw [e1, ih k (ns ++ [r]) hb hns', e3]
        by_cases h1 : 0 < d
        · have e2 : nmStep (d, kept) r = (d - 1, kept) := by
            unfold nmStep; rw [if_neg hd, if_pos ⟨fun q => h0 (.inl q), fun q => h0 (.inr q)⟩, if_pos h1]
          rw [e2]
          dsimp only
          rw [show ns.length + 1 - d = ns.length - (d - 1) by omega, take_snoc_le _ _ _ (by omega), show d - (ns.length + 1) = d - 1 - ns.length by omega]
        · have hd0 : d = 0 := by omega
          subst hd0
          have e2 : nmStep (0, kept) r = (0, r :: kept) := by
            unfold nmStep; rw [if_neg hd, if_pos ⟨fun q => h0 (.inl q), fun q => h0 (.inr q)⟩, if_neg (by simp)]
          rw [e2]
          dsimp only
          rw [Nat.zero_sub, Nat.zero_sub, Nat.sub_zero, Nat.sub_zero, ← e3, List.take_length, List.take_length]
          simp

theorem spell_nil {rows : List (List Int)} (h : Rws rows) : spellB rows = [] ↔ rows = [[0]] := by
  constructor
  · intro e
    match rows, h with
    | [r], h =>
      rw [spell_one] at e
      rw [(rowB_nil (h.2 r (List.mem_cons_self ..))).1 e]
    | r :: s :: rows, h => rw [spell_cons] at e; simp at e
  · rintro rfl; rw [spell_one, rowB0]

theorem zeros_front : ∀ (k : Nat) (rows : List (List Int)), k ≤ front rows → rows = List.replicate k [0] ++ rows.drop k
  | 0, rows, _ => rfl
  | k + 1, rows, h => by
    obtain ⟨s, rest, rfl⟩ := front_pos (rows := rows) (by omega)
    rw [front_cons0] at h
    have := zeros_front k (s :: rest) (by omega)
    rw [List.replicate_succ, List.cons_append, List.drop_succ_cons, ← this]
theorem slN_front (rows : List (List Int)) : slN rows ≤ front rows := by unfold slN; split <;> omega

theorem names_mem {rows : List (List Int)} (h : Rws rows) (sl : Nat) : ∀ x ∈ namesN rows sl, Rw x ∧ x ≠ [0] := by
  intro x hx
  unfold namesN at hx
  rw [back_eq] at hx
  dsimp only at hx
  have kept : x ∈ (back rows).2 → Rw x ∧ x ≠ [0] := fun hx => ⟨h.2 x (back_mem rows x hx).1, (back_mem rows x hx).2.1⟩
  have all : x ∈ List.replicate (back rows).1 ddR ++ (back rows).2 → Rw x ∧ x ≠ [0] := fun hx => by
    rcases List.mem_append.1 hx with hx | hx
    · rw [(List.mem_replicate.1 hx).2]; exact ⟨rw000, by decide⟩
    · exact kept hx
  split at hx
  · exact kept hx
  · split at hx
    · rw [List.mem_singleton.1 hx]; exact ⟨rw00, by decide⟩
    · exact all hx
theorem norm_spell {rows : List (List Int)} (h : Rws rows) : normB (spellB rows) = List.replicate (slN rows) 47 ++ spellB (namesN rows (slN rows)) := by
  unfold normB
  by_cases h0 : spellB rows = []
  · rw [if_pos h0]
    obtain rfl := (spell_nil h).1 h0
    have e1 : slN [[0]] = 0 := rfl
    have e2 : namesN [[0]] 0 = [[0, 0]] := by decide
    rw [e1, e2, spell_one, rowB00]; rfl
  · rw [if_neg h0, root_spell h]
    dsimp only
    have hsf := slN_front rows
    have hfl := front_le rows
    have hlen : 0 < rows.length := List.length_pos_iff.2 h.1
    have hdr : rows.drop (slN rows) ≠ [] := fun e => by
      have := congrArg List.length e
      simp at this; omega
    have hz := zeros_front (slN rows) rows hsf
    have hbk : back (rows.drop (slN rows)) = back rows := by
      conv => rhs; rw [hz, back_zeros]
    have hrw : ∀ x ∈ rows.drop (slN rows), Rw x := fun x hx => h.2 x (List.mem_of_mem_drop hx)
    have hnames : ∀ x ∈ namesN rows (slN rows), Rw x ∧ x ≠ [0] := names_mem h _
    generalize hb : decide (0 < slN rows) = b
    have hb' : b = false ↔ List.replicate (slN rows) (47 : UInt8) = [] := by
      rw [← hb]; simp
    have nf := nfold_map hb' (rows.drop (slN rows)) [] (by simp) hrw
    rw [List.map_nil] at nf
    have rf := rfold (rows.drop (slN rows)) b 0 [] (fun _ => rfl) (by simp)
    simp only [List.replicate_zero, List.nil_append, List.length_nil, Nat.zero_sub, List.take_nil, List.append_nil, Nat.zero_add, Nat.sub_zero] at rf
    rw [spellB_split hdr, nf, rf, hbk]
    show (if _ ++ spellB _ = [] then [46] else _ ++ spellB _) = _
    unfold namesN at hnames ⊢
    rw [back_eq] at hnames ⊢
    dsimp only at hnames ⊢
    by_cases hs : 0 < slN rows
    · have : b = true := by rw [← hb]; simpa using hs
      rw [if_neg (by simp; omega), if_pos hs, if_pos this]; rfl
    · have : ¬ b = true := by rw [← hb]; simpa using hs
      have hs0 : slN rows = 0 := by omega
      rw [if_neg this, if_neg hs]
      rw [if_neg hs] at hnames
      simp only [hs0, List.replicate_zero, List.nil_append]
      generalize List.replicate (back rows).1 ddR ++ (back rows).2 = X at *
      by_cases hX : X = []
      · subst hX
        rw [if_pos (show spellB [] = [] from rfl), if_pos rfl, spell_one, rowB00]
      · rw [if_neg hX] at hnames
        rw [if_neg (fun e => ?_), if_neg hX]
        have := (spell_nil ⟨hX, fun x hx => (hnames x hx).1⟩).1 e
        rw [this] at hnames
        exact (hnames [0] (List.mem_cons_self ..)).2 rfl
end Mine
end

section
set_option maxRecDepth 10000
namespace Mine

/-! ## taking a name's endings -/
theorem psx_row {m : List Int} {y : Int} (h : Rw (m ++ [y])) : psx (rowB (m ++ [y])) = if 0 < m.sum then (rowB m, 46 :: ap y.natAbs) else (rowB (m ++ [y]), []) := by
  have := ext_spell (rows := [m ++ [y]]) ⟨by simp, fun r hr => by rw [List.mem_singleton.1 hr]; exact h⟩
  rw [spell_one] at this
  rw [this]
  unfold ending
  have e1 : ([m ++ [y]] : List (List Int)).getLastD [] = m ++ [y] := rfl
  have e2 : ([m ++ [y]] : List (List Int)).dropLast = [] := rfl
  rw [e1, e2, List.dropLast_concat, List.getLastD_concat]
  have e3 : spellB [[0, y]] = 46 :: ap y.natAbs := by simp [spellB, rowB, joinB, ap_zero]
  rw [e3]
  rfl
theorem row_parts : ∀ r : List Int, r ≠ [] → (∀ n ∈ r, 0 ≤ n) → ∃ z v t, r = (List.replicate z 0 ++ [v]) ++ t ∧ (t = [] ∨ 0 < v)
  | [], h, _ => absurd rfl h
  | [n], _, _ => ⟨0, n, [], rfl, .inl rfl⟩
  | n :: x :: r, _, h => by
    have hn := h n (List.mem_cons_self ..)
    by_cases h0 : 0 < n
    · exact ⟨0, n, x :: r, rfl, .inr h0⟩
    · obtain ⟨z, v, t, e, q⟩ := row_parts (x :: r) (by simp) fun y hy => h y (List.mem_cons_of_mem _ hy)
      refine ⟨z + 1, v, t, ?_, q⟩
      rw [e, show n = 0 by omega, List.replicate_succ]; rfl
theorem rowB_cons0 {r : List Int} (h : r ≠ []) : rowB (0 :: r) = 46 :: rowB r := by
  cases r with
  | nil => exact absurd rfl h
  | cons x r => simp [rowB, joinB, ap_zero]
theorem rowB_core (v : Int) : ∀ z : Nat, rowB (List.replicate z 0 ++ [v]) = List.replicate z 46 ++ ap v.natAbs
  | 0 => by simp [rowB, joinB]
  | z + 1 => by
    rw [List.replicate_succ, List.cons_append, rowB_cons0 (by simp), rowB_core v z, List.replicate_succ]; rfl
theorem row_len : ∀ r : List Int, r.length ≤ (rowB r).length + 1
  | [] => by simp
  | [n] => by simp
  | n :: x :: r => by
    have := row_len (x :: r)
    have e : rowB (n :: x :: r) = ap n.natAbs ++ 46 :: rowB (x :: r) := by simp [rowB, joinB]
    rw [e]
    simp only [List.length_append, List.length_cons] at this ⊢
    omega
theorem sum_zeros (z : Nat) : (List.replicate z (0 : Int)).sum = 0 := by
  induction z with
  | zero => rfl
  | succ z ih => rw [List.replicate_succ, List.sum_cons, ih]; rfl
theorem sum_nonneg : ∀ l : List Int, (∀ n ∈ l, 0 ≤ n) → 0 ≤ l.sum
  | [], _ => by simp
  | a :: l, h => by
    have h1 := sum_nonneg l fun y hy => h y (List.mem_cons_of_mem _ hy)
    have h2 := h a (List.mem_cons_self ..)
    rw [List.sum_cons]; omega
theorem loopW_stop {σ : Type} (f : σ → σ) (c : σ → Bool) (s : σ) (h : c s = false) : ∀ n, loopW f c n s = s
  | 0 => rfl
  | n + 1 => by rw [loopW, if_neg (by simp [h])]

theorem rev_ind {α : Type} {P : List α → Prop} (h0 : P []) (h1 : ∀ l x, P l → P (l ++ [x])) (l : List α) : P l := by
  have key : ∀ l : List α, P l.reverse := by
    intro l
    induction l with
    | nil => exact h0
    | cons x l ih => rw [List.reverse_cons]; exact h1 _ _ ih
  have := key l.reverse
  rwa [List.reverse_reverse] at this

theorem xloop (z : Nat) (v : Int) (hv : 0 ≤ v) (tail : List Int) : (∀ n ∈ tail, 0 ≤ n) → (tail = [] ∨ 0 < v) → ∀ (acc : List Int) (n : Nat), tail.length ≤ n →
    loopW xStep xGo n (acc, (psx (rowB ((List.replicate z 0 ++ [v]) ++ tail))).1, (psx (rowB ((List.replicate z 0 ++ [v]) ++ tail))).2) = (tail ++ acc, rowB (List.replicate z 0 ++ [v]), []) := by
  have hcore : ∀ n ∈ List.replicate z 0 ++ [v], 0 ≤ n := fun n hn => by
    rcases List.mem_append.1 hn with h | h
    · rw [(List.mem_replicate.1 h).2]; omega
    · rw [List.mem_singleton.1 h]; exact hv
  induction tail using rev_ind with
  | h0 =>
    intro _ _ acc n _
    rw [List.append_nil, psx_row ⟨by simp, hcore⟩, if_neg (by rw [sum_zeros]; omega)]
    exact loopW_stop _ _ _ rfl n
  | h1 t y ih =>
    intro ht hq acc n hn
    have hv' : 0 < v := hq.resolve_left (by simp)
    have ht' : ∀ n ∈ t, 0 ≤ n := fun n hn => ht n (List.mem_append_left _ hn)
    have hy : 0 ≤ y := ht y (by simp)
    rw [← List.append_assoc, psx_row ⟨by simp, fun n hn => ?_⟩, if_pos ?_]
    · have hnl : t.length + 1 ≤ n := by simpa using hn
      obtain ⟨m, rfl⟩ : ∃ m, n = m + 1 := ⟨n - 1, by omega⟩
      rw [loopW, if_pos (by rfl)]
      show loopW xStep xGo m (wval ((46 :: ap y.natAbs).drop 1) :: acc, (psx (rowB ((List.replicate z 0 ++ [v]) ++ t))).1, (psx (rowB ((List.replicate z 0 ++ [v]) ++ t))).2) = _
      rw [List.drop_succ_cons, List.drop_zero, wval_ap y hy, ih ht' (.inr hv') (y :: acc) m (by omega)]
      simp
    · have h1 := sum_nonneg t ht'
      have e : (List.replicate z 0 ++ [v] ++ t).sum = (List.replicate z (0 : Int)).sum + v + t.sum := by
        rw [List.sum_append, List.sum_append]; simp
      rw [e, sum_zeros]; omega
    · rcases List.mem_append.1 hn with hn | hn
      · rcases List.mem_append.1 hn with hn | hn
        · exact hcore n hn
        · exact ht' n hn
      · rw [List.mem_singleton.1 hn]; exact hy

theorem rowOf_row {r : List Int} (h : Rw r) : rowOf (rowB r) = r := by
  obtain ⟨z, v, t, e, q⟩ := row_parts r h.1 h.2
  have hv : 0 ≤ v := h.2 v (by rw [e]; simp)
  have ht : ∀ n ∈ t, 0 ≤ n := fun n hn => h.2 n (by rw [e]; simp [hn])
  have hl := row_len r
  have hlen : r.length = z + 1 + t.length := by rw [e]; simp; omega
  have hx : xRow (rowB r) = (t, rowB (List.replicate z 0 ++ [v]), []) := by
    unfold xRow
    have hle : t.length ≤ (rowB r).length := by omega
    generalize (rowB r).length = n at hle
    rw [e]
    have := xloop z v hv t ht q [] n hle
    rw [List.append_nil] at this
    exact this
  unfold rowOf
  rw [hx, rowB_core]
  dsimp only
  have hc : (List.replicate z (46 : UInt8) ++ ap v.natAbs).count 46 = z := by
    rw [List.count_append, List.count_replicate_self, List.count_eq_zero.2 (ap_no (by decide) _)]; rfl
  rw [hc, List.drop_left' (by simp), wval_ap v hv, e]

/-! ## taking names -/
theorem lastOf_full (h : List UInt8) (hh : h = [] ∨ ∃ g, h = g ++ [47]) : lastOf 47 h = h.length := by
  rcases hh with rfl | ⟨g, rfl⟩
  · rfl
  · rw [lastOf_end]; simp
def pathB (sl : Nat) (names : List (List Int)) : List UInt8 := List.replicate sl 47 ++ spellB names
theorem rep_end (sl : Nat) : List.replicate sl (47 : UInt8) = [] ∨ ∃ g, List.replicate sl (47 : UInt8) = g ++ [47] := by
  cases sl with
  | zero => exact .inl rfl
  | succ k => exact .inr ⟨_, List.replicate_succ'⟩
theorem psplit_nil (sl : Nat) : psplit (pathB sl []) = (List.replicate sl 47, []) := by
  have e : pathB sl [] = List.replicate sl 47 ++ [] := rfl
  rw [e, psplit_pre _ [] (by simp) (by rw [List.append_nil]; exact lastOf_full _ (rep_end sl)), if_neg]
  rintro ⟨-, q⟩
  exact q (by simp)
theorem psplit_snoc (sl : Nat) (init : List (List Int)) (x : List Int) (h : ∀ r ∈ init, Rw r ∧ r ≠ [0]) : psplit (pathB sl (init ++ [x])) = (pathB sl init, rowB x) := by
  have e : pathB sl (init ++ [x]) = (List.replicate sl 47 ++ preB init) ++ rowB x := by
    unfold pathB; rw [spell_pre, List.append_assoc]
  have hend : List.replicate sl 47 ++ preB init = [] ∨ ∃ g, List.replicate sl 47 ++ preB init = g ++ [47] := by
    unfold preB
    by_cases h0 : init = []
    · rw [if_pos h0, List.append_nil]; exact rep_end sl
    · rw [if_neg h0]; exact .inr ⟨_, (List.append_assoc ..).symm⟩
  rw [e, psplit_pre _ _ (rowB_no47 x) (by rw [lastOf_app 47 _ _ (rowB_no47 x)]; exact lastOf_full _ hend)]
  congr 1
  by_cases h0 : init = []
  · subst h0
    have : List.replicate sl (47 : UInt8) ++ preB [] = List.replicate sl 47 := by simp [preB]
    rw [this, if_neg]
    · simp [pathB, spellB, joinB]
    · rintro ⟨-, q⟩
      exact q (by simp)
  · obtain ⟨s, r, rfl⟩ := snoc_of h0
    have hr := h r (by simp)
    obtain ⟨t, d, e4, hd⟩ := last_spell (s := s) hr.1 hr.2
    have hp : List.replicate sl 47 ++ preB (s ++ [r]) = (List.replicate sl 47 ++ t) ++ [d] ++ List.replicate 1 47 := by
      unfold preB; rw [if_neg h0, e4]; simp
    have hne : ¬ ((List.replicate sl 47 ++ t) ++ [d] ++ List.replicate 1 (47 : UInt8) = List.replicate ((List.replicate sl 47 ++ t) ++ [d] ++ List.replicate 1 (47 : UInt8)).length (47 : UInt8)) := fun q => by
      have : d ∈ List.replicate ((List.replicate sl 47 ++ t) ++ [d] ++ List.replicate 1 (47 : UInt8)).length (47 : UInt8) := by
        rw [← q]; simp
      exact hd (List.mem_replicate.1 this).2
    rw [hp, if_pos ⟨by simp, hne⟩, rstrip_pad 47 _ d hd]
    unfold pathB
    rw [e4, List.append_assoc]

theorem yloop (sl : Nat) (names : List (List Int)) : (∀ r ∈ names, Rw r ∧ r ≠ [0]) → ∀ (acc : List (List Int)) (n : Nat), names.length ≤ n →
    loopW yStep yGo n (acc, (psplit (pathB sl names)).1, (psplit (pathB sl names)).2) = (names ++ acc, List.replicate sl 47, []) := by
  induction names using rev_ind with
  | h0 =>
    intro _ acc n _
    rw [psplit_nil]
    exact loopW_stop _ _ _ rfl n
  | h1 init x ih =>
    intro h acc n hn
    have hi : ∀ r ∈ init, Rw r ∧ r ≠ [0] := fun r hr => h r (List.mem_append_left _ hr)
    have hx := h x (by simp)
    rw [psplit_snoc sl init x hi]
    have hnl : init.length + 1 ≤ n := by simpa using hn
    obtain ⟨m, rfl⟩ : ∃ m, n = m + 1 := ⟨n - 1, by omega⟩
    have hne : rowB x ≠ [] := fun e => hx.2 ((rowB_nil hx.1).1 e)
    rw [loopW, if_pos (by show (rowB x != []) = true; simpa using hne)]
    show loopW yStep yGo m (rowOf (rowB x) :: acc, (psplit (pathB sl init)).1, (psplit (pathB sl init)).2) = _
    rw [rowOf_row hx.1, ih hi (x :: acc) m (by omega)]
    simp
theorem names_len (names : List (List Int)) : (∀ r ∈ names, Rw r ∧ r ≠ [0]) → names.length ≤ (spellB names).length := by
  induction names using rev_ind with
  | h0 => intro _; simp
  | h1 init x ih =>
    intro h
    have h1 := ih fun r hr => h r (List.mem_append_left _ hr)
    have hx := h x (by simp)
    have hne : rowB x ≠ [] := fun e => hx.2 ((rowB_nil hx.1).1 e)
    have := List.length_pos_iff.2 hne
    rw [spell_pre]
    unfold preB
    by_cases h0 : init = []
    · subst h0; simp; omega
    · rw [if_neg h0]; simp; omega
theorem taken_path (sl : Nat) (names : List (List Int)) (h : ∀ r ∈ names, Rw r ∧ r ≠ [0]) : takenB (pathB sl names) = (names, List.replicate sl 47, []) := by
  unfold takenB
  have hl : names.length ≤ (pathB sl names).length := by
    have := names_len names h
    unfold pathB; simp; omega
  rw [yloop sl names h [] _ hl, List.append_nil]

/-! ## what is told of rows -/
theorem told {rows : List (List Int)} (h : Rws rows) (ok : RowsOk rows) : Told rows where
  ne := h.1
  ok := ok
  read := read_spell h
  root := root_spell h
  split := split_spell h
  ext := ext_spell h
  norm := norm_spell h
  taken := by
    have := taken_path (slN rows) (namesN rows (slN rows)) (names_mem h _)
    unfold pathB at this
    rw [this]; exact ⟨rfl, rfl⟩
end Mine
end

section
set_option maxRecDepth 10000
namespace Mine

/-! ## join -/
theorem joined_rws {one other : List (List Int)} (h1 : Rws one) (h2 : Rws other) : Rws (joined one other) := by
  unfold joined
  split
  · exact h2
  · split
    · refine ⟨by simp [h2.1], fun r hr => ?_⟩
      rcases List.mem_append.1 hr with hr | hr
      · exact h1.2 r (List.dropLast_subset _ hr)
      · exact h2.2 r hr
    · refine ⟨by simp [h2.1], fun r hr => ?_⟩
      rcases List.mem_append.1 hr with hr | hr
      · exact h1.2 r hr
      · exact h2.2 r hr
theorem join_spell {one other : List (List Int)} (h1 : Rws one) (h2 : Rws other) : joinP (spellB one) (spellB other) = spellB (joined one other) := by
  unfold joinP joined
  rw [starts_spell h2]
  by_cases hf : 0 < front other
  · rw [if_pos (.inl (by simpa using hf)), if_pos hf]
  rw [if_neg hf]
  have hs : ¬ decide (0 < front other) = true := by simpa using hf
  obtain ⟨init, x, rfl⟩ := snoc_of h1.1
  rw [List.getLast?_concat, List.dropLast_concat]
  by_cases hx : x = [0]
  · subst hx
    rw [if_pos rfl, spell_pre, rowB0, List.append_nil]
    unfold preB
    by_cases hi : init = []
    · subst hi
      rw [if_pos rfl, if_pos (.inr rfl)]; rfl
    · rw [if_neg hi, if_neg (fun q => q.elim hs (by simp)), if_pos (by unfold endsB; rw [List.getLast?_concat]; rfl), spell_app hi h2.1]
      simp
  · have hxr := h1.2 x (by simp)
    obtain ⟨t, d, e, hd⟩ := last_spell (s := init) hxr hx
    rw [if_neg (fun q => hx (Option.some.inj q)), if_neg (fun q => q.elim hs (by rw [e]; simp)), if_neg (by rw [e]; unfold endsB; rw [List.getLast?_concat]; simpa using hd), spell_app (by simp) h2.1]
    rfl

/-! ## commonpath -/
theorem order_eq : ∀ x y : List UInt8, PySem.Builtin.Bytes.order x y = Ordering.eq → x = y
  | [], [], _ => rfl
  | [], b :: y, h => by simp [PySem.Builtin.Bytes.order] at h
  | a :: x, [], h => by simp [PySem.Builtin.Bytes.order] at h
  | a :: x, b :: y, h => by
    unfold PySem.Builtin.Bytes.order at h
    by_cases h1 : a < b
    · rw [if_pos h1] at h; cases h
    · rw [if_neg h1] at h
      by_cases h2 : a > b
      · rw [if_pos h2] at h; cases h
      · rw [if_neg h2] at h
        have e : a = b := by
          rw [UInt8.lt_iff_toNat_lt] at h1
          have h2' : ¬ b < a := h2
          rw [UInt8.lt_iff_toNat_lt] at h2'
          exact UInt8.toNat_inj.1 (by omega)
        rw [e, order_eq x y h]
theorem cmpL_eq : ∀ u v : List (List UInt8), cmpL u v = Ordering.eq → u = v
  | [], [], _ => rfl
  | [], _ :: _, h => by simp [cmpL] at h
  | _ :: _, [], h => by simp [cmpL] at h
  | x :: u, y :: v, h => by
    unfold cmpL at h
    by_cases e : x = y
    · rw [if_pos e] at h; rw [e, cmpL_eq u v h]
    · rw [if_neg e] at h; exact absurd (order_eq x y h) e
theorem comm_symm : ∀ u v : List (List UInt8), comm u v = comm v u
  | [], [] => rfl
  | [], _ :: _ => by simp [comm]
  | _ :: _, [] => by simp [comm]
  | x :: u, y :: v => by
    by_cases e : x = y
    · subst e; simp [comm, comm_symm u v]
    · simp [comm, e, Ne.symm e]
theorem comm_minmax (u v : List (List UInt8)) : comm (minL u v) (maxL u v) = comm u v := by
  unfold minL maxL
  cases h : cmpL v u
  · simp [comm_symm]
  · have := cmpL_eq v u h; subst this; simp
  · simp
theorem comm_rows : ∀ u v : List (List Int), (∀ r ∈ u, Rw r) → (∀ r ∈ v, Rw r) → comm (u.map rowB) (v.map rowB) = (commR u v).map rowB
  | [], v, _, _ => by cases v <;> simp [comm, commR]
  | a :: u, [], _, _ => by simp [comm, commR]
  | a :: u, b :: v, h1, h2 => by
    have ih := comm_rows u v (fun r hr => h1 r (List.mem_cons_of_mem _ hr)) fun r hr => h2 r (List.mem_cons_of_mem _ hr)
    by_cases e : a = b
    · subst e; simp [comm, commR, ih]
    · have : rowB a ≠ rowB b := fun q => e (rowB_inj (h1 a (List.mem_cons_self ..)) (h2 b (List.mem_cons_self ..)) q)
      simp [comm, commR, e, this]
theorem comps_spell {rows : List (List Int)} (h : Rws rows) : compsB (spellB rows) = (keptR rows).map rowB := by
  unfold compsB keptR
  rw [spellB_split h.1, List.filter_map]
  congr 1
  refine List.filter_congr fun r hr => ?_
  have hr' := h.2 r hr
  show (!(rowB r).isEmpty && !(rowB r == [46])) = keptB r
  unfold keptB
  have e1 : (rowB r).isEmpty = (r == [0]) := by
    rw [Bool.eq_iff_iff, List.isEmpty_iff, beq_iff_eq]; exact rowB_nil hr'
  have e2 : (rowB r == [46]) = (r == [0, 0]) := by
    rw [Bool.eq_iff_iff, beq_iff_eq, beq_iff_eq]; exact rowB_dot hr'
  rw [e1, e2]; rfl
theorem common_spell {one other : List (List Int)} (h1 : Rws one) (h2 : Rws other) : commonB (spellB one) (spellB other) = List.replicate (min (front one) 1) 47 ++ spellB (commR (keptR one) (keptR other)) := by
  unfold commonB
  rw [comm_minmax, comps_spell h1, comps_spell h2, comm_rows (keptR one) (keptR other) (fun r hr => h1.2 r (List.mem_filter.1 hr).1) (fun r hr => h2.2 r (List.mem_filter.1 hr).1), starts_spell h1]
  have : (if decide (0 < front one) = true then [(47 : UInt8)] else []) = List.replicate (min (front one) 1) 47 := by
    by_cases h : 0 < front one
    · rw [if_pos (by simpa using h), show min (front one) 1 = 1 by omega]; rfl
    · rw [if_neg (by simpa using h), show min (front one) 1 = 0 by omega]; rfl
  rw [this]; rfl
theorem shared_ok {one other : List (List Int)} (h1 : Rws one) (h2 : Rws other) (o1 : RowsOk one) (o2 : RowsOk other) : SharedOk one other (spellB one) (spellB other) where
  ok1 := o1
  ok2 := o2
  l1 := by have := (spellB_bound o1).1; omega
  l2 := by have := (spellB_bound o2).1; omega
  s1 := starts_spell h1
  s2 := starts_spell h2
  eq := fun _ => common_spell h1 h2

/-! ## the rows of a script -/
def Gd (m : Nat) (rows : List (List Int)) : Prop := rows.length ≤ m ∧ ∀ r ∈ rows, RowOk r ∧ Rw r
theorem rw_of {r : List Int} (h : RowOk r) (h0 : r ≠ []) : Rw r := ⟨h0, fun n hn => (h.2 n hn).1⟩
theorem gd_app {a b : Nat} {xs ys : List (List Int)} (h1 : Gd a xs) (h2 : Gd b ys) : Gd (a + b) (xs ++ ys) := ⟨by have := h1.1; have := h2.1; simp; omega, fun r hr => (List.mem_append.1 hr).elim (h1.2 r) (h2.2 r)⟩
theorem gd_rep (k : Nat) : Gd k (List.replicate k [0]) := ⟨by simp, fun r hr => by
  rw [(List.mem_replicate.1 hr).2]; exact ⟨⟨by simp, by simp⟩, rw0⟩⟩
theorem gd_take {a : Nat} {xs : List (List Int)} (h : Gd a xs) (n : Nat) : Gd (min n a) (xs.take n) := ⟨by have := h.1; simp; omega, fun r hr => h.2 r (List.mem_of_mem_take hr)⟩
theorem gd_pick (script : List Int) (a : Nat) (ha : a ≤ 1) (d : List Int) (hd : RowOk d) (hd0 : d ≠ []) :
    let r := (pickL script (some (a : Int)) (some 6) (some 2)).map rowN
    Gd 3 (if r = [] then [d] else r) ∧ (if r = [] then [d] else r) ≠ [] := by
  intro r
  have hl : r.length ≤ 3 := by
    show ((pickL script (some (a : Int)) (some 6) (some 2)).map rowN).length ≤ 3
    rw [List.length_map]; exact pickL_len script a ha
  have hr : ∀ x ∈ r, RowOk x ∧ Rw x := fun x hx => by
    obtain ⟨n, _, rfl⟩ := List.mem_map.1 hx
    exact ⟨(rowN_ok n).1, rw_of (rowN_ok n).1 (rowN_ok n).2⟩
  by_cases h : r = []
  · rw [if_pos h]
    exact ⟨⟨by simp, fun x hx => by rw [List.mem_singleton.1 hx]; exact ⟨hd, rw_of hd hd0⟩⟩, by simp⟩
  · rw [if_neg h]
    exact ⟨⟨hl, hr⟩, h⟩
theorem ones_gd (script : List Int) : Gd 3 (onesN script) ∧ onesN script ≠ [] := gd_pick script 0 (by omega) [5, 0] ⟨by simp, by simp⟩ (by simp)
theorem others_gd (script : List Int) : Gd 3 (othersN script) ∧ othersN script ≠ [] := gd_pick script 1 (by omega) [0, 18] ⟨by simp, by simp⟩ (by simp)
theorem gd_rws {m : Nat} {rows : List (List Int)} (h : Gd m rows) (h0 : rows ≠ []) : Rws rows := ⟨h0, fun r hr => (h.2 r hr).2⟩
theorem gd_ok {m : Nat} {rows : List (List Int)} (h : Gd m rows) (hm : m ≤ 40) : RowsOk rows := ⟨Nat.le_trans h.1 hm, fun r hr => (h.2 r hr).1⟩
theorem one_gd (script : List Int) : Gd 5 (oneN script) ∧ oneN script ≠ [] := by
  have h := ones_gd script
  have g := gd_app (gd_rep (sigma script % 3)) h.1
  refine ⟨⟨Nat.le_trans g.1 (by omega), g.2⟩, ?_⟩
  unfold oneN; simp [h.2]
theorem other_gd (script : List Int) : Gd 8 (otherN script) ∧ otherN script ≠ [] := by
  have h := others_gd script
  have g := gd_app (gd_app (gd_rep (sigma script / 3 % 3)) (gd_take (ones_gd script).1 (sigma script / 9))) h.1
  refine ⟨⟨Nat.le_trans g.1 (by omega), g.2⟩, ?_⟩
  unfold otherN; simp [h.2]
theorem joined_gd {a b : Nat} {one other : List (List Int)} (h1 : Gd a one) (h2 : Gd b other) : Gd (a + b) (joined one other) := by
  unfold joined
  split
  · exact ⟨Nat.le_trans h2.1 (by omega), h2.2⟩
  · split
    · exact gd_app ⟨by have := h1.1; simp; omega, fun r hr => h1.2 r (List.dropLast_subset _ hr)⟩ h2
    · exact gd_app h1 h2

theorem lawOk (script : List Int) : LawOk script := by
  have g1 := one_gd script
  have g2 := other_gd script
  have r1 := gd_rws g1.1 g1.2
  have r2 := gd_rws g2.1 g2.2
  have r3 := joined_rws r1 r2
  have g3 := joined_gd g1.1 g2.1
  have o1 := gd_ok g1.1 (by omega)
  have o2 := gd_ok g2.1 (by omega)
  have o3 := gd_ok g3 (by omega)
  exact ⟨told r1 o1, told r2 o2, told r3 o3, join_spell r1 r2, shared_ok r1 r2 o1 o2, shared_ok r2 r3 o2 o3⟩
end Mine
end

section
open PySem PySem.W PyProof.Rows
set_option maxRecDepth 100000
set_option maxHeartbeats 4000000
namespace Mine
/-! # the head: the text's top, run once -/
def isDef : Stmt → Bool
  | .FunctionDef .. => true
  | .ClassDef .. => true
  | _ => false
/-- the text's defs and classes -/
def vw : Program := { PG with main := { PG.main with body := PG.main.body.filter isDef } }
theorem from_boot {p : Program} {α : Type} {f : Shared → α} {g : World → α} {N : Nat} (e : opening p = plainProg p.main.scope.names) (hN : Nat.ble 600 N = true) (hf : ∀ s, fenceModules? p s = some s)
    (h : ∀ (w : World) (os : OsState), (topFrom treeTable p w N ⟨boot_heap w.params, Array.mk [], boot_drawn, boot_toks, os⟩).map f = some (g w)) (w : World) : (openEnds treeTable p w N).map f = some (g w) := by
  obtain ⟨⟨hp, gs, d, k, os⟩, e1, e2⟩ := Option.map_eq_some_iff.mp (boot_open e hN hf w)
  simp only [Prod.mk.injEq] at e2
  obtain ⟨rfl, rfl, rfl, rfl⟩ := e2
  unfold openEnds
  rw [e1]
  exact h w os
def seenT (w : World) (os : OsState) : Prop := (topFrom treeTable PG w 2000 ⟨boot_heap w.params, Array.mk [], boot_drawn, boot_toks, os⟩).map (fun s => (openSeen vw [] (importedModules PG.main.body) (fun s => xlAt vw [] s && recOk [] s) true s, ())) = some (openGood vw [], ())
theorem seenF (w : World) : ∀ os, seenT (w.withFollow "special-get-raises" false) os := fun os => by
  unfold seenT topFrom
  rw [PySem.W.Fast.te14082659384304107361, PySem.W.Fast.te14364793385576792824, PySem.W.Fast.te4187177175401517315, PySem.W.Fast.te5923862056798008813]
  kernel_rfl
theorem seenR (w : World) : ∀ os, seenT (w.withFollow "special-get-raises" true) os := fun os => by
  unfold seenT topFrom
  rw [PySem.W.Fast.te14082659384304107361, PySem.W.Fast.te14364793385576792824, PySem.W.Fast.te4187177175401517315, PySem.W.Fast.te5923862056798008813]
  kernel_rfl
/-- the law's text is well said -/
theorem said : PySem.Challenge.rw_ij0052_01.wellSaid = true := by
  rw [PySem.W.Fast.te9446332074065402090]
  kernel_rfl
theorem seenA (w : World) : ∀ os, seenT w os := byRow2 "special-get-raises" (P := fun w => ∀ os, seenT w os) seenF seenR w
theorem left (w : World) : (openEnds treeTable PG w 2000).map (fun s => (openSeen vw [] (importedModules PG.main.body) (fun s => xlAt vw [] s && recOk [] s) true s, ())) = some (openGood vw [], ()) :=
  from_boot (p := PG) (g := fun _ => (openGood vw [], ())) rfl rfl (fun _ => rfl) seenA w
end Mine
end

open PySem PySem.W PyProof.Rows
set_option maxRecDepth 100000 in
set_option maxHeartbeats 8000000 in
theorem PySem.Challenge.cw_ij0052_01_holds : PySem.Challenge.rw_ij0052_01.Holds := by
  refine holds_law Mine.said fun _ => ?_
  refine holds_open (q := Mine.vw) (loose := []) (Xt := fun s => xlAt Mine.vw [] s && recOk [] s) (XP := XL Mine.vw []) (Yf := Hook.obs Hook.none) (Ya := Hook.val Hook.none) (YP := Hook.says Hook.none) (N := 2000) Mine.left (Hook.of _) (Hook.keeps _) (fun s e => xl_of s (Bool.and_eq_true_iff.mp e).1) XL.keeps (by rfl) (by rfl) (by rfl) (fun s e => recFacts_of (Bool.and_eq_true_iff.mp e).2) (by rfl) (row_said Mine.said) (by decide +kernel) ⟨rfl, rfl, rfl, rfl, rfl, by decide +kernel⟩ ?hw ?hc
  case hw => w_witness2
  case hc =>
    intro w s₀ s₁ mg mb G Y fa o pm cd doc dV kV ho hd hcd hD hmg hg args vals as hpre hlay hrd hwl hlo
    refine Ground.open G ?_
    intro T B D TE TW
    wrow_args hpre hlay hrd hwl hlo
    refine enter_call ?_
    refine codeAny_mono ?_ (fun _ _ g => GoodW.toG g)
    w_call any ho hd hcd hD T F
    refine Mine.law_end T (by kernel_rfl) (by decide +kernel) (by assumption) (by assumption) (by omega) F (by assumption) (fun cls => rfl) ?_ (fun ns _ => Mine.lawOk ns)
    refine postW_of (X := true) (by first | rfl | with_unfolding_all rfl) ?_ rfl
    simp [OpenLaw.row, WTm.value, same]
