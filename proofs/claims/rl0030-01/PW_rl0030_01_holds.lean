import PyProof.Rows.All
import Wide.All
import OpenK.AllK
import Wide.FinOn
import KE.KSortAsk
import KE.KBits
import KE.BitLaws
import PySem.Challenge.RW_rl0030_01
set_option Elab.async false
section
open PySem PyProof.Rows
namespace Mine

/-- Plain data. -/
inductive D where
  | int (i : Int)
  | flt (x : UInt64)
  | bool (b : Bool)
  | none
  | list (ds : List D)
  | tup (ds : List D)

mutual
def Rep (X : List Addr) (h : Heap) : D → Value → Prop
  | .int i, v => ∃ t, v = .int i t
  | .flt x, v => ∃ t, v = .float x t
  | .bool b, v => v = .bool b
  | .none, v => v = .none
  | .list ds, v => ∃ a vs, v = .ref a ∧ a ∉ X ∧ h.IsList a (List.toArray vs) ∧ RepAll X h ds vs
  | .tup ds, v => ∃ a vs, v = .ref a ∧ a ∉ X ∧ h.IsTuple a (List.toArray vs) ∧ RepAll X h ds vs
def RepAll (X : List Addr) (h : Heap) : List D → List Value → Prop
  | [], vs => vs = []
  | d :: ds, vs => ∃ v r, vs = v :: r ∧ Rep X h d v ∧ RepAll X h ds r
end

def SubX (X : List Addr) (h h' : Heap) : Prop := ∀ b o items n, b ∉ X → h.get? b = some o → o.data = .seq items n → h'.get? b = some o
def Sub (h h' : Heap) : Prop := ∀ b o, h.get? b = some o → h'.get? b = some o
theorem Sub.refl (h : Heap) : Sub h h := fun _ _ e => e
theorem Sub.trans {a b c : Heap} (h : Sub a b) (k : Sub b c) : Sub a c := fun x o e => k x o (h x o e)
theorem Sub.subX {h h' : Heap} (k : Sub h h') (X : List Addr) : SubX X h h' := fun b o _ _ _ e _ => k b o e
theorem Sub.size {h h' : Heap} (k : Sub h h') {a : Addr} {o : Obj} (e : h.get? a = some o) : a < h'.objs.size := Heap.lt_size (k _ _ e)

mutual
theorem Rep.mono {X Y : List Addr} {h h' : Heap} (hY : ∀ a ∈ Y, a ∈ X) (k : SubX X h h') : ∀ {d : D} {v : Value}, Rep X h d v → Rep Y h' d v
  | .int _, _, r => by simpa only [Rep] using r
  | .flt _, _, r => by simpa only [Rep] using r
  | .bool _, _, r => by simpa only [Rep] using r
  | .none, _, r => by simpa only [Rep] using r
  | .list ds, v, r => by
    simp only [Rep] at r ⊢
    obtain ⟨a, vs, e, hx, ⟨o, ho, hc, n, hd⟩, ra⟩ := r
    exact ⟨a, vs, e, fun q => hx (hY _ q), ⟨o, k a o _ _ hx ho hd, hc, n, hd⟩, RepAll.mono hY k ra⟩
  | .tup ds, v, r => by
    simp only [Rep] at r ⊢
    obtain ⟨a, vs, e, hx, ⟨o, ho, hc, n, hd⟩, ra⟩ := r
    exact ⟨a, vs, e, fun q => hx (hY _ q), ⟨o, k a o _ _ hx ho hd, hc, n, hd⟩, RepAll.mono hY k ra⟩
theorem RepAll.mono {X Y : List Addr} {h h' : Heap} (hY : ∀ a ∈ Y, a ∈ X) (k : SubX X h h') : ∀ {ds : List D} {vs : List Value}, RepAll X h ds vs → RepAll Y h' ds vs
  | [], _, r => by simpa only [RepAll] using r
  | d :: ds, vs, r => by
    simp only [RepAll] at r ⊢
    obtain ⟨v, q, e, r1, r2⟩ := r
    exact ⟨v, q, e, Rep.mono hY k r1, RepAll.mono hY k r2⟩
end
theorem Rep.up {X : List Addr} {h h' : Heap} (k : Sub h h') {d : D} {v : Value} (r : Rep X h d v) : Rep X h' d v := r.mono (fun _ q => q) (k.subX X)
theorem RepAll.up {X : List Addr} {h h' : Heap} (k : Sub h h') {d : List D} {v : List Value} (r : RepAll X h d v) : RepAll X h' d v := r.mono (fun _ q => q) (k.subX X)
theorem Rep.less {X Y : List Addr} {h : Heap} (hY : ∀ a ∈ Y, a ∈ X) {d : D} {v : Value} (r : Rep X h d v) : Rep Y h d v := r.mono hY fun _ _ _ _ _ e _ => e
theorem RepAll.less {X Y : List Addr} {h : Heap} (hY : ∀ a ∈ Y, a ∈ X) {d : List D} {v : List Value} (r : RepAll X h d v) : RepAll Y h d v := r.mono hY fun _ _ _ _ _ e _ => e

theorem RepAll.length {X : List Addr} {h : Heap} : ∀ {ds : List D} {vs : List Value}, RepAll X h ds vs → vs.length = ds.length
  | [], _, r => by simp only [RepAll] at r; subst r; rfl
  | _ :: _, _, r => by simp only [RepAll] at r; obtain ⟨v, q, rfl, _, r2⟩ := r; simp [RepAll.length r2]
theorem RepAll.get {X : List Addr} {h : Heap} : ∀ {ds : List D} {vs : List Value} {i : Nat} {d : D}, RepAll X h ds vs → ds[i]? = some d → ∃ v, vs[i]? = some v ∧ Rep X h d v
  | [], _, _, _, _, e => by simp at e
  | d' :: ds, _, i, d, r, e => by
    simp only [RepAll] at r
    obtain ⟨v, q, rfl, r1, r2⟩ := r
    cases i with
    | zero => simp at e; subst e; exact ⟨v, rfl, r1⟩
    | succ i => simpa using RepAll.get r2 (by simpa using e)
theorem RepAll.append {X : List Addr} {h : Heap} : ∀ {ds es : List D} {vs ws : List Value}, RepAll X h ds vs → RepAll X h es ws → RepAll X h (ds ++ es) (vs ++ ws)
  | [], _, _, _, r, k => by simp only [RepAll] at r; subst r; simpa using k
  | d :: ds, es, _, ws, r, k => by
    simp only [RepAll] at r
    obtain ⟨v, q, rfl, r1, r2⟩ := r
    simp only [List.cons_append, RepAll]
    exact ⟨v, q ++ ws, rfl, r1, RepAll.append r2 k⟩
theorem RepAll.one {X : List Addr} {h : Heap} {d : D} {v : Value} (r : Rep X h d v) : RepAll X h [d] [v] := by
  simp only [RepAll]; exact ⟨v, [], rfl, r, rfl⟩
theorem RepAll.cons {X : List Addr} {h : Heap} {d : D} {v : Value} {ds : List D} {vs : List Value} (r : Rep X h d v) (k : RepAll X h ds vs) : RepAll X h (d :: ds) (v :: vs) := by
  simp only [RepAll]; exact ⟨v, vs, rfl, r, k⟩
theorem RepAll.nil {X : List Addr} {h : Heap} : RepAll X h [] [] := by simp only [RepAll]
theorem RepAll.take {X : List Addr} {h : Heap} : ∀ (n : Nat) {ds : List D} {vs : List Value}, RepAll X h ds vs → RepAll X h (ds.take n) (vs.take n)
  | 0, _, _, _ => by simp [RepAll]
  | n + 1, [], _, r => by simp only [RepAll] at r; subst r; simp [RepAll]
  | n + 1, d :: ds, _, r => by
    simp only [RepAll] at r
    obtain ⟨v, q, rfl, r1, r2⟩ := r
    simpa using RepAll.cons r1 (RepAll.take n r2)
theorem RepAll.drop {X : List Addr} {h : Heap} : ∀ (n : Nat) {ds : List D} {vs : List Value}, RepAll X h ds vs → RepAll X h (ds.drop n) (vs.drop n)
  | 0, _, _, r => by simpa using r
  | n + 1, [], _, r => by simp only [RepAll] at r; subst r; simp [RepAll]
  | n + 1, d :: ds, _, r => by
    simp only [RepAll] at r
    obtain ⟨v, q, rfl, r1, r2⟩ := r
    simpa using RepAll.drop n r2

/-- variables: the newest first -/
inductive Has : List (Str × D) → Str → D → Prop
  | head {x : Str} {d : D} {l : List (Str × D)} : Has ((x, d) :: l) x d
  | tail {x y : Str} {d e : D} {l : List (Str × D)} : y ≠ x → Has l x d → Has ((y, e) :: l) x d

def Holds (env : Env) (h : Heap) (x : Str) (v : Value) : Prop :=
  (env.kindOf x = some .local ∧ ∃ m, h.Ns env.locals m ∧ m x = some v) ∨
  (env.kindOf x = some .cell ∧ ∃ c, env.cells.lookup x = some c ∧ h.IsCell c (some v))

theorem Holds.up {env : Env} {h h' : Heap} (k : Sub h h') {x : Str} {v : Value} (q : Holds env h x v) : Holds env h' x v := by
  rcases q with ⟨a, m, b, c⟩ | ⟨a, c, b, d⟩
  · exact .inl ⟨a, m, b.keeps k, c⟩
  · exact .inr ⟨a, c, b, d.keeps k⟩

def Binds (env : Env) (X : List Addr) (h : Heap) (l : List (Str × D)) : Prop := ∀ x d, Has l x d → ∃ v, Rep X h d v ∧ Holds env h x v
theorem Binds.up {env : Env} {X : List Addr} {h h' : Heap} {l : List (Str × D)} (k : Sub h h') (b : Binds env X h l) : Binds env X h' l :=
  fun x d q => let ⟨v, r, hh⟩ := b x d q; ⟨v, r.up k, hh.up k⟩

structure PC where
  prog : Program
  w : World
  base : Heap
  mg : Str → Option Value
  mb : Str → Option Value
  hg : base.Ns mainGlobals mg
  hb : base.Ns builtinsNs mb
  lim : base.NoLimit

structure EnvOk (env : Env) : Prop where
  kind : env.scope.kind = .function
  glob : env.globals = mainGlobals
  blt : env.builtins = builtinsNs

def Good (A : Around) (k : Nat) : Prop := A.handled = none ∧ A.depth + k < recursionLimit ∧ A.units + 10 * k + 200 < cLine

abbrev Never : Value → Shared → Prop := fun _ _ => False

def Kp (s s' : Shared) : Prop := ∃ h' tk, s' = { s with heap := h', toks := tk } ∧ ∀ b o, s.heap.get? b = some o → h'.get? b = some o
theorem Kp.rfl (s : Shared) : Kp s s := ⟨s.heap, s.toks, by cases s; exact Eq.refl _, fun _ _ e => e⟩
theorem Kp.trans {a b c : Shared} (h : Kp a b) (k : Kp b c) : Kp a c := by
  obtain ⟨h1, t1, rfl, k1⟩ := h
  obtain ⟨h2, t2, rfl, k2⟩ := k
  exact ⟨h2, t2, Eq.refl _, fun b o e => k2 b o (k1 b o e)⟩
theorem Kp.sub {a b : Shared} (h : Kp a b) : Sub a.heap b.heap := by
  obtain ⟨h1, t1, rfl, k1⟩ := h; exact k1
theorem Kp.tok (s : Shared) (n : Nat) : Kp s { s with toks := n } := ⟨s.heap, n, Eq.refl _, fun _ _ e => e⟩

/-- All that an expression's walk is given. -/
structure Inp (C : PC) (k : Nat) (env : Env) (X : List Addr) (l : List (Str × D)) (A : Around) (s : Shared) : Prop where
  good : Good A k
  eok : EnvOk env
  base : Sub C.base s.heap
  alive : ∀ a ∈ X, ∃ o, s.heap.get? a = some o
  binds : Binds env X s.heap l

theorem Inp.up {C : PC} {k : Nat} {env : Env} {X : List Addr} {l : List (Str × D)} {A : Around} {s s' : Shared} (i : Inp C k env X l A s) (q : Kp s s') : Inp C k env X l A s' :=
  ⟨i.good, i.eok, i.base.trans q.sub, fun a ha => let ⟨o, e⟩ := i.alive a ha; ⟨o, q.sub _ _ e⟩, i.binds.up q.sub⟩
theorem fresh_not {h : Heap} {X : List Addr} (hx : ∀ a ∈ X, ∃ o, h.get? a = some o) {a : Addr} (ha : h.objs.size ≤ a) : a ∉ X := fun q => by
  obtain ⟨o, e⟩ := hx a q
  exact absurd (Heap.lt_size e) (Nat.not_lt.mpr ha)
theorem Kp.push (s : Shared) (o : Obj) : Kp s { s with heap := s.heap.push o } := ⟨s.heap.push o, s.toks, Eq.refl _, fun _ _ e => Heap.get?_push_of_some _ e⟩

def Ev (C : PC) (k : Nat) (env : Env) (X : List Addr) (l : List (Str × D)) (e : PySem.Expr) (d : D) : Prop :=
  ∀ (A : Around) (s : Shared) (Q : Value → Shared → Prop), Inp C k env X l A s → (∀ v s', Kp s s' → Rep X s'.heap d v → Q v s') → wpAny (model C.prog C.w) A (eval e env) Q Never s

def EvAll (C : PC) (k : Nat) (env : Env) (X : List Addr) (l : List (Str × D)) (es : List PySem.Expr) (ds : List D) : Prop :=
  ∀ (A : Around) (s : Shared) (pos : Pos) (Q : List Value → Shared → Prop), Inp C k env X l A s → (∀ vs s', Kp s s' → RepAll X s'.heap ds vs → Q vs s') →
    wpAny (model C.prog C.w) A (spliced (backTo pos (starEach es env))) Q Never s

/-- a truth test -/
def IsT (C : PC) (k : Nat) (env : Env) (X : List Addr) (l : List (Str × D)) (e : PySem.Expr) (b : Bool) : Prop :=
  ∀ (A : Around) (s : Shared) (Q : Bool → Shared → Prop), Inp C k env X l A s → (∀ s', Kp s s' → Q b s') → wpAny (model C.prog C.w) A (isTrue e env (eval e env)) Q Never s

def OpOk (C : PC) (op : Operator) (d1 d2 d : D) : Prop :=
  ∀ (A : Around) (s : Shared) (X : List Addr) (v1 v2 : Value) (Q : Value → Shared → Prop), Good A 0 → Sub C.base s.heap → (∀ a ∈ X, ∃ o, s.heap.get? a = some o) → Rep X s.heap d1 v1 → Rep X s.heap d2 v2 →
    (∀ v s', Kp s s' → Rep X s'.heap d v → Q v s') → wpAny (model C.prog C.w) A (binaryOp op v1 v2) Q Never s
def CmpOk (C : PC) (op : CmpOp) (d1 d2 : D) (b : Bool) : Prop :=
  ∀ (A : Around) (s : Shared) (X : List Addr) (v1 v2 : Value) (Q : Value → Shared → Prop), Good A 0 → Sub C.base s.heap → (∀ a ∈ X, ∃ o, s.heap.get? a = some o) → Rep X s.heap d1 v1 → Rep X s.heap d2 v2 →
    (∀ s', Kp s s' → Q (.bool b) s') → wpAny (model C.prog C.w) A (compareOp op v1 v2) Q Never s

theorem Good.zero {A : Around} {k : Nat} (h : Good A k) : Good A 0 := by
  obtain ⟨a, b, c⟩ := h
  exact ⟨a, by omega, by omega⟩
theorem Good.le {A : Around} {k j : Nat} (h : Good A k) (hj : j ≤ k) : Good A j := by
  obtain ⟨a, b, c⟩ := h
  exact ⟨a, by omega, by omega⟩
end Mine
end
section
open PySem PyProof.Rows
set_option linter.unusedVariables false
namespace Mine
section
variable {C : PC} {k : Nat} {env : Env} {X : List Addr} {l : List (Str × D)}

theorem Ev.int {i : Int} {n : Nat} {pos : Pos} : Ev C k env X l (.Constant (.int i) n pos) (.int i) := fun A s Q _ h =>
  wpAny_Constant_int (h _ _ (Kp.tok s _) (by simp only [Rep]; exact ⟨_, rfl⟩))
theorem Ev.flt {x : UInt64} {n : Nat} {pos : Pos} : Ev C k env X l (.Constant (.float x) n pos) (.flt x) := fun A s Q _ h =>
  AutoFloatOps.wpAny_Constant_float (h _ _ (Kp.tok s _) (by simp only [Rep]; exact ⟨_, rfl⟩))
theorem Ev.boolc {b : Bool} {n : Nat} {pos : Pos} : Ev C k env X l (.Constant (.bool b) n pos) (.bool b) := fun A s Q _ h =>
  wpAny_Constant_bool (h _ _ (Kp.rfl s) (by simp only [Rep]))

theorem Ev.name {x : Str} {pos : Pos} {d : D} (hx : Has l x d) (hd : (x == ("__debug__" : Str)) = false) : Ev C k env X l (.Name x pos) d := fun A s Q i h => by
  obtain ⟨v, r, hh⟩ := i.binds x d hx
  rcases hh with ⟨hk, m, hn, hv⟩ | ⟨hk, c, hc, hv⟩
  · exact wpAny_Name (wpAny_loadName_local i.eok.kind hk hn hv (h _ _ (Kp.rfl s) r)) hd
  · exact wpAny_Name (wpAny_loadName_cell i.eok.kind hk hc hv (h _ _ (Kp.rfl s) r)) hd

/-- a global constant that is a float -/
theorem Ev.gflt {x : Str} {pos : Pos} {f : UInt64} {t : Tok} (hx : C.mg x = some (.float f t)) (hk : env.kindOf x = some .globalImplicit) (hd : (x == ("__debug__" : Str)) = false) :
    Ev C k env X l (.Name x pos) (.flt f) := fun A s Q i h =>
  Calls.Name_function_global i.eok.kind hk (Calls.loadGlobal_global (mg := C.mg) (by rw [i.eok.glob]; exact C.hg.keeps i.base) hx (h _ _ (Kp.rfl s) (by simp only [Rep]; exact ⟨_, rfl⟩))) hd

theorem Ev.binop {a b : PySem.Expr} {op : Operator} {pos : Pos} {d1 d2 d : D} (h1 : Ev C k env X l a d1) (h2 : Ev C k env X l b d2) (ho : OpOk C op d1 d2 d) : Ev C k env X l (.BinOp a op b pos) d := fun A s Q i h =>
  wpAny_BinOp (h1 A s _ i fun v s1 k1 r1 => h2 A s1 _ (i.up k1) fun v2 s2 k2 r2 => ho A s2 X v v2 Q i.good.zero ((i.up k1).up k2).base ((i.up k1).up k2).alive (r1.up k2.sub) r2 fun w s3 k3 r3 => h w s3 ((k1.trans k2).trans k3) r3)

theorem Ev.cmp {a b : PySem.Expr} {op : CmpOp} {pos : Pos} {d1 d2 : D} {c : Bool} (h1 : Ev C k env X l a d1) (h2 : Ev C k env X l b d2) (ho : CmpOk C op d1 d2 c) (hm : behindInMarks op b = false) : Ev C k env X l (.Compare a [op] [b] pos) (.bool c) := fun A s Q i h =>
  wpAny_Compare1 (h1 A s _ i fun v s1 k1 r1 => h2 A s1 _ (i.up k1) fun v2 s2 k2 r2 => ho A s2 X v v2 Q i.good.zero ((i.up k1).up k2).base ((i.up k1).up k2).alive (r1.up k2.sub) r2 fun s3 k3 => h _ s3 ((k1.trans k2).trans k3) (by simp only [Rep])) hm
theorem IsT.cmp {a b : PySem.Expr} {op : CmpOp} {pos : Pos} {d1 d2 : D} {c : Bool} (h1 : Ev C k env X l a d1) (h2 : Ev C k env X l b d2) (ho : CmpOk C op d1 d2 c) (hm : behindInMarks op b = false) : IsT C k env X l (.Compare a [op] [b] pos) c := fun A s Q i h =>
  wpAny_isTrue_Compare1 (h1 A s _ i fun v s1 k1 r1 => h2 A s1 _ (i.up k1) fun v2 s2 k2 r2 => ho A s2 X v v2 _ i.good.zero ((i.up k1).up k2).base ((i.up k1).up k2).alive (r1.up k2.sub) r2 fun s3 k3 => wpAny_truthy_bool (h s3 ((k1.trans k2).trans k3))) hm

def AllT (C : PC) (k : Nat) (env : Env) (X : List Addr) (l : List (Str × D)) (op : BoolOp) (es : List PySem.Expr) (b : Bool) : Prop :=
  ∀ (A : Around) (s : Shared) (Q : Bool → Shared → Prop), Inp C k env X l A s → (∀ s', Kp s s' → Q b s') → wpAny (model C.prog C.w) A (allTrue op es env) Q Never s
theorem IsT.boolop {op : BoolOp} {es : List PySem.Expr} {pos : Pos} {b : Bool} (h : AllT C k env X l op es b) : IsT C k env X l (.BoolOp op es pos) b := fun A s Q i q => wpAny_isTrue_BoolOp (h A s Q i q)
theorem AllT.andNil : AllT C k env X l .And [] true := fun A s Q _ q => wpAny_allTrue_And_nil (q s (Kp.rfl s))
theorem AllT.orNil : AllT C k env X l .Or [] false := fun A s Q _ q => wpAny_allTrue_Or_nil (q s (Kp.rfl s))
theorem AllT.andT {x : PySem.Expr} {r : List PySem.Expr} {b : Bool} (h : IsT C k env X l x true) (hr : AllT C k env X l .And r b) : AllT C k env X l .And (x :: r) b := fun A s Q i q =>
  wpAny_allTrue_And_cons (h A s _ i fun s1 k1 => by simp only [if_true]; exact hr A s1 Q (i.up k1) fun s2 k2 => q s2 (k1.trans k2))
theorem AllT.andF {x : PySem.Expr} {r : List PySem.Expr} (h : IsT C k env X l x false) : AllT C k env X l .And (x :: r) false := fun A s Q i q =>
  wpAny_allTrue_And_cons (h A s _ i fun s1 k1 => by simp only [Bool.false_eq_true, if_false]; exact q s1 k1)
theorem AllT.orT {x : PySem.Expr} {r : List PySem.Expr} (h : IsT C k env X l x true) : AllT C k env X l .Or (x :: r) true := fun A s Q i q =>
  wpAny_allTrue_Or_cons (h A s _ i fun s1 k1 => by simp only [if_true]; exact q s1 k1)
theorem AllT.orF {x : PySem.Expr} {r : List PySem.Expr} {b : Bool} (h : IsT C k env X l x false) (hr : AllT C k env X l .Or r b) : AllT C k env X l .Or (x :: r) b := fun A s Q i q =>
  wpAny_allTrue_Or_cons (h A s _ i fun s1 k1 => by simp only [Bool.false_eq_true, if_false]; exact hr A s1 Q (i.up k1) fun s2 k2 => q s2 (k1.trans k2))

theorem Ev.ifT {t a b : PySem.Expr} {pos : Pos} {d : D} (h : IsT C k env X l t true) (ha : Ev C k env X l a d) : Ev C k env X l (.IfExp t a b pos) d := fun A s Q i q =>
  wpAny_IfExp (h A s _ i fun s1 k1 => by simp only [if_true]; exact ha A s1 Q (i.up k1) fun v s2 k2 r => q v s2 (k1.trans k2) r)
theorem Ev.ifF {t a b : PySem.Expr} {pos : Pos} {d : D} (h : IsT C k env X l t false) (ha : Ev C k env X l b d) : Ev C k env X l (.IfExp t a b pos) d := fun A s Q i q =>
  wpAny_IfExp (h A s _ i fun s1 k1 => by simp only [Bool.false_eq_true, if_false]; exact ha A s1 Q (i.up k1) fun v s2 k2 r => q v s2 (k1.trans k2) r)
theorem Ev.neg {a : PySem.Expr} {pos : Pos} {n : Int} (h : Ev C k env X l a (.int n)) : Ev C k env X l (.UnaryOp .USub a pos) (.int (-n)) := fun A s Q i q =>
  wpAny_UnaryOp (h A s _ i fun v s1 k1 r => by
    simp only [Rep] at r
    obtain ⟨t, rfl⟩ := r
    exact PyProof.Rows.neg_int (q _ _ (k1.trans (Kp.tok _ _)) (by simp only [Rep]; exact ⟨_, rfl⟩)))

theorem EvAll.nil : EvAll C k env X l [] [] := fun A s pos Q _ q => wpAny_items_nil (q [] s (Kp.rfl s) RepAll.nil)
theorem EvAll.cons {e : PySem.Expr} {es : List PySem.Expr} {d : D} {ds : List D} (h : Ev C k env X l e d) (hs : EvAll C k env X l es ds)
    (he : starEach (e :: es) env = (false, eval e env) :: starEach es env) : EvAll C k env X l (e :: es) (d :: ds) := fun A s pos Q i q =>
  wpAny_items_cons (h A s _ i fun v s1 k1 r1 => hs A s1 pos _ (i.up k1) fun vs s2 k2 r2 => q (v :: vs) s2 (k1.trans k2) (RepAll.cons (r1.up k2.sub) r2)) he

theorem rep_push_list {s : Shared} {ds : List D} {vs : List Value} (al : ∀ a ∈ X, ∃ o, s.heap.get? a = some o) (r : RepAll X s.heap ds vs) :
    Rep X (s.heap.push { cls := .type "list", data := .seq vs.toArray }) (.list ds) (.ref s.heap.objs.size) := by
  simp only [Rep]
  exact ⟨_, vs, rfl, fresh_not al (Nat.le_refl _), ⟨_, Heap.get?_push_size _ rfl, rfl, 0, rfl⟩, r.up fun _ _ e => Heap.get?_push_of_some _ e⟩
theorem rep_push_tup {s : Shared} {ds : List D} {vs : List Value} (al : ∀ a ∈ X, ∃ o, s.heap.get? a = some o) (r : RepAll X s.heap ds vs) :
    Rep X (s.heap.push { cls := .type "tuple", data := .seq vs.toArray }) (.tup ds) (.ref s.heap.objs.size) := by
  simp only [Rep]
  exact ⟨_, vs, rfl, fresh_not al (Nat.le_refl _), ⟨_, Heap.get?_push_size _ rfl, rfl, 0, rfl⟩, r.up fun _ _ e => Heap.get?_push_of_some _ e⟩
theorem Ev.tup {es : List PySem.Expr} {n : Nat} {pos : Pos} {ds : List D} (h : EvAll C k env X l es ds) (hz : ds.length ≤ 1000) : Ev C k env X l (.Tuple es n pos) (.tup ds) := fun A s Q i q =>
  wpAny_Tuple (h A s pos _ i fun vs s1 k1 r => ⟨by rw [r.length, show sizeLine = 16777216 from rfl]; omega, q _ _ (k1.trans (Kp.push _ _)) (rep_push_tup (i.up k1).alive r)⟩)
theorem Ev.list {es : List PySem.Expr} {pos : Pos} {ds : List D} (h : EvAll C k env X l es ds) (hz : ds.length ≤ 1000) : Ev C k env X l (.List es pos) (.list ds) := fun A s Q i q =>
  wpAny_List (h A s pos _ i fun vs s1 k1 r => ⟨by rw [r.length, show sizeLine = 16777216 from rfl]; omega, q _ _ (k1.trans (Kp.push _ _)) (rep_push_list (i.up k1).alive r)⟩)
end

section
variable {C : PC}
-- operators
theorem OpOk.addII {a b : Int} : OpOk C .Add (.int a) (.int b) (.int (a + b)) := fun A s X v1 v2 Q _ _ _ r1 r2 q => by
  simp only [Rep] at r1 r2; obtain ⟨t, rfl⟩ := r1; obtain ⟨u, rfl⟩ := r2
  exact PyProof.Rows.add_int (q _ _ (Kp.tok _ _) (by simp only [Rep]; exact ⟨_, rfl⟩))
theorem OpOk.subII {a b : Int} : OpOk C .Sub (.int a) (.int b) (.int (a - b)) := fun A s X v1 v2 Q _ _ _ r1 r2 q => by
  simp only [Rep] at r1 r2; obtain ⟨t, rfl⟩ := r1; obtain ⟨u, rfl⟩ := r2
  exact PyProof.Rows.sub_int (q _ _ (Kp.tok _ _) (by simp only [Rep]; exact ⟨_, rfl⟩))
theorem OpOk.mulII {a b : Int} (h : a.natAbs < 2 ^ 64) : OpOk C .Mult (.int a) (.int b) (.int (a * b)) := fun A s X v1 v2 Q _ _ _ r1 r2 q => by
  simp only [Rep] at r1 r2; obtain ⟨t, rfl⟩ := r1; obtain ⟨u, rfl⟩ := r2
  exact PyProof.Rows.mul_int (q _ _ (Kp.tok _ _) (by simp only [Rep]; exact ⟨_, rfl⟩)) (IntMulOk.of_left (intBits_le h))
theorem OpOk.modII {a b : Int} (h : b ≠ 0) : OpOk C .Mod (.int a) (.int b) (.int (a.fmod b)) := fun A s X v1 v2 Q _ _ _ r1 r2 q => by
  simp only [Rep] at r1 r2; obtain ⟨t, rfl⟩ := r1; obtain ⟨u, rfl⟩ := r2
  exact PyProof.Rows.mod_int' h (q _ _ (Kp.tok _ _) (by simp only [Rep]; exact ⟨_, rfl⟩))
theorem OpOk.fdivII {a b : Int} (h : b ≠ 0) (hb : b.natAbs < 1073741824) : OpOk C .FloorDiv (.int a) (.int b) (.int (a.fdiv b)) := fun A s X v1 v2 Q _ _ _ r1 r2 q => by
  simp only [Rep] at r1 r2; obtain ⟨t, rfl⟩ := r1; obtain ⟨u, rfl⟩ := r2
  exact PyProof.Rows.floordiv_int h (q _ _ (Kp.tok _ _) (by simp only [Rep]; exact ⟨_, rfl⟩)) (Or.inl (PyProof.noPylong_small hb))
theorem OpOk.powII {a n : Int} (h : 0 ≤ n) (hn : n ≤ 1000000) (ha : a.natAbs < 2 ^ 64) : OpOk C .Pow (.int a) (.int n) (.int (a ^ n.toNat)) := fun A s X v1 v2 Q _ _ _ r1 r2 q => by
  simp only [Rep] at r1 r2; obtain ⟨t, rfl⟩ := r1; obtain ⟨u, rfl⟩ := r2
  exact PyProof.Rows.pow_int_small h hn ha (q _ _ (Kp.tok _ _) (by simp only [Rep]; exact ⟨_, rfl⟩))
theorem OpOk.xorII {a b : Int} : OpOk C .BitXor (.int a) (.int b) (.int (Builtin.bitXor a b)) := fun A s X v1 v2 Q _ _ _ r1 r2 q => by
  simp only [Rep] at r1 r2; obtain ⟨t, rfl⟩ := r1; obtain ⟨u, rfl⟩ := r2
  exact PyProof.Rows.xor_int (q _ _ (Kp.tok _ _) (by simp only [Rep]; exact ⟨_, rfl⟩))
theorem OpOk.andII {a b : Int} : OpOk C .BitAnd (.int a) (.int b) (.int (Builtin.bitAnd a b)) := fun A s X v1 v2 Q _ _ _ r1 r2 q => by
  simp only [Rep] at r1 r2; obtain ⟨t, rfl⟩ := r1; obtain ⟨u, rfl⟩ := r2
  exact PyProof.Rows.and_int (q _ _ (Kp.tok _ _) (by simp only [Rep]; exact ⟨_, rfl⟩))
theorem OpOk.shrII {a n : Int} (h : 0 ≤ n) : OpOk C .RShift (.int a) (.int n) (.int (a.fdiv (2 ^ n.toNat))) := fun A s X v1 v2 Q _ _ _ r1 r2 q => by
  simp only [Rep] at r1 r2; obtain ⟨t, rfl⟩ := r1; obtain ⟨u, rfl⟩ := r2
  exact PyProof.Rows.rshift_int h (q _ _ (Kp.tok _ _) (by simp only [Rep]; exact ⟨_, rfl⟩))
theorem OpOk.divII {a b : Int} (h : b ≠ 0) (ha : a.natAbs < 2 ^ 1023) : OpOk C .Div (.int a) (.int b) (.flt (Float64.ofFrac (decide (a < 0) != decide (b < 0)) a.natAbs b.natAbs)) := fun A s X v1 v2 Q g _ _ r1 r2 q => by
  simp only [Rep] at r1 r2; obtain ⟨t, rfl⟩ := r1; obtain ⟨u, rfl⟩ := r2
  exact Flt.div_ii_fits g.1 ha (fun e => absurd e h) fun _ _ => q _ _ (Kp.tok _ _) (by simp only [Rep]; exact ⟨_, rfl⟩)
theorem OpOk.addFF {a b : UInt64} : OpOk C .Add (.flt a) (.flt b) (.flt (Float64.add a b)) := fun A s X v1 v2 Q _ _ _ r1 r2 q => by
  simp only [Rep] at r1 r2; obtain ⟨t, rfl⟩ := r1; obtain ⟨u, rfl⟩ := r2
  exact AutoFloatOps.add_0 (q _ _ (Kp.tok _ _) (by simp only [Rep]; exact ⟨_, rfl⟩))
theorem OpOk.subFF {a b : UInt64} : OpOk C .Sub (.flt a) (.flt b) (.flt (Float64.sub a b)) := fun A s X v1 v2 Q _ _ _ r1 r2 q => by
  simp only [Rep] at r1 r2; obtain ⟨t, rfl⟩ := r1; obtain ⟨u, rfl⟩ := r2
  exact AutoFloatOps.sub_0 (q _ _ (Kp.tok _ _) (by simp only [Rep]; exact ⟨_, rfl⟩))
theorem OpOk.mulFF {a b : UInt64} : OpOk C .Mult (.flt a) (.flt b) (.flt (Float64.mul a b)) := fun A s X v1 v2 Q _ _ _ r1 r2 q => by
  simp only [Rep] at r1 r2; obtain ⟨t, rfl⟩ := r1; obtain ⟨u, rfl⟩ := r2
  exact AutoFloatOps.mul_0 (q _ _ (Kp.tok _ _) (by simp only [Rep]; exact ⟨_, rfl⟩))
theorem OpOk.divFF {a b : UInt64} (h : Float64.isZero b = false) : OpOk C .Div (.flt a) (.flt b) (.flt (Float64.div a b)) := fun A s X v1 v2 Q _ _ _ r1 r2 q => by
  simp only [Rep] at r1 r2; obtain ⟨t, rfl⟩ := r1; obtain ⟨u, rfl⟩ := r2
  exact AutoFloatOps.truediv_1 (by rw [h]; exact Bool.false_ne_true) (q _ _ (Kp.tok _ _) (by simp only [Rep]; exact ⟨_, rfl⟩))
theorem OpOk.modFF {a b : UInt64} (h : Float64.isZero b = false) : OpOk C .Mod (.flt a) (.flt b) (.flt (Float64.divmod a b).snd) := fun A s X v1 v2 Q _ _ _ r1 r2 q => by
  simp only [Rep] at r1 r2; obtain ⟨t, rfl⟩ := r1; obtain ⟨u, rfl⟩ := r2
  exact AutoFloatOps.mod_1 (by rw [h]; exact Bool.false_ne_true) (q _ _ (Kp.tok _ _) (by simp only [Rep]; exact ⟨_, rfl⟩))
theorem OpOk.subFI {a : UInt64} {n : Int} (h : n.natAbs < 2 ^ 1023) : OpOk C .Sub (.flt a) (.int n) (.flt (Float64.sub a (Float64.ofInt n))) := fun A s X v1 v2 Q _ _ _ r1 r2 q => by
  simp only [Rep] at r1 r2; obtain ⟨t, rfl⟩ := r1; obtain ⟨u, rfl⟩ := r2
  refine AutoFloatOps.sub_fi_1 (Float64.ofInt_fits h) ?_
  exact q _ _ (Kp.tok _ _) (by simp only [Rep]; exact ⟨_, rfl⟩)
theorem OpOk.mulFI {a : UInt64} {n : Int} (h : n.natAbs < 2 ^ 1023) : OpOk C .Mult (.flt a) (.int n) (.flt (Float64.mul a (Float64.ofInt n))) := fun A s X v1 v2 Q _ _ _ r1 r2 q => by
  simp only [Rep] at r1 r2; obtain ⟨t, rfl⟩ := r1; obtain ⟨u, rfl⟩ := r2
  refine AutoFloatOps.mul_fi_1 (Float64.ofInt_fits h) ?_
  exact q _ _ (Kp.tok _ _) (by simp only [Rep]; exact ⟨_, rfl⟩)
theorem OpOk.addLL {a b : List D} (h : a.length + b.length ≤ 1000) : OpOk C .Add (.list a) (.list b) (.list (a ++ b)) := fun A s X v1 v2 Q _ _ al r1 r2 q => by
  simp only [Rep] at r1 r2
  obtain ⟨x, vs, rfl, hx, hl, ra⟩ := r1
  obtain ⟨y, ws, rfl, hy, hb, rb⟩ := r2
  obtain ⟨⟨cls, dd, data, sl⟩, ho, hc, n, hd⟩ := id hl
  obtain ⟨⟨cls2, dd2, data2, sl2⟩, ho2, hc2, n2, hd2⟩ := id hb
  simp only at hc hd hc2 hd2
  subst hc hd hc2 hd2
  have e : vs.toArray ++ ws.toArray = (vs ++ ws).toArray := by simp
  have hz : vs.length + ws.length ≤ sizeLine := by rw [ra.length, rb.length, show sizeLine = 16777216 from rfl]; omega
  refine concat_meets ⟨_, ho, rfl⟩ ⟨_, ho2, rfl⟩ noFill_list_add seq_list_add PySem.F.slot_list_add PySem.F.entry_list_add (PySem.F.args_list_add_2 _ _) (list_addW x y vs.toArray ws.toArray n n2 dd dd2 sl sl2 (by simpa using hz)) ⟨ho, ho2, ?_⟩
  rw [e]
  exact q _ _ (Kp.push _ _) (rep_push_list al (ra.append rb))

-- comparisons
theorem CmpOk.eqII {a b : Int} : CmpOk C .Eq (.int a) (.int b) (a == b) := fun A s X v1 v2 Q _ _ _ r1 r2 q => by
  simp only [Rep] at r1 r2; obtain ⟨t, rfl⟩ := r1; obtain ⟨u, rfl⟩ := r2
  exact PyProof.Rows.eq_int (q _ (Kp.rfl _))
theorem CmpOk.neII {a b : Int} : CmpOk C .NotEq (.int a) (.int b) (a != b) := fun A s X v1 v2 Q _ _ _ r1 r2 q => by
  simp only [Rep] at r1 r2; obtain ⟨t, rfl⟩ := r1; obtain ⟨u, rfl⟩ := r2
  exact PyProof.Rows.ne_int (q _ (Kp.rfl _))
theorem CmpOk.ltII {a b : Int} : CmpOk C .Lt (.int a) (.int b) (decide (a < b)) := fun A s X v1 v2 Q _ _ _ r1 r2 q => by
  simp only [Rep] at r1 r2; obtain ⟨t, rfl⟩ := r1; obtain ⟨u, rfl⟩ := r2
  exact PyProof.Rows.lt_int (q _ (Kp.rfl _))
theorem CmpOk.gtII {a b : Int} : CmpOk C .Gt (.int a) (.int b) (decide (b < a)) := fun A s X v1 v2 Q _ _ _ r1 r2 q => by
  simp only [Rep] at r1 r2; obtain ⟨t, rfl⟩ := r1; obtain ⟨u, rfl⟩ := r2
  exact PyProof.Rows.gt_int (q _ (Kp.rfl _))
theorem CmpOk.eqFF {a b : UInt64} : CmpOk C .Eq (.flt a) (.flt b) (Float64.cmp a b == some .eq) := fun A s X v1 v2 Q _ _ _ r1 r2 q => by
  simp only [Rep] at r1 r2; obtain ⟨t, rfl⟩ := r1; obtain ⟨u, rfl⟩ := r2
  exact AutoFloatOps.eq_0 (q _ (Kp.rfl _))
theorem CmpOk.ltFF {a b : UInt64} : CmpOk C .Lt (.flt a) (.flt b) (Float64.cmp a b == some .lt) := fun A s X v1 v2 Q _ _ _ r1 r2 q => by
  simp only [Rep] at r1 r2; obtain ⟨t, rfl⟩ := r1; obtain ⟨u, rfl⟩ := r2
  exact AutoFloatOps.lt_0 (q _ (Kp.rfl _))
theorem CmpOk.leFF {a b : UInt64} : CmpOk C .LtE (.flt a) (.flt b) (Float64.cmp a b == some .lt || Float64.cmp a b == some .eq) := fun A s X v1 v2 Q _ _ _ r1 r2 q => by
  simp only [Rep] at r1 r2; obtain ⟨t, rfl⟩ := r1; obtain ⟨u, rfl⟩ := r2
  exact AutoFloatOps.le_0 (q _ (Kp.rfl _))
theorem CmpOk.isBB {a b : Bool} : CmpOk C .Is (.bool a) (.bool b) (a == b) := fun A s X v1 v2 Q _ _ _ r1 r2 q => by
  simp only [Rep] at r1 r2; subst r1; subst r2
  exact PyProof.Rows.is_bool (q _ (Kp.rfl _))
theorem CmpOk.isNotBB {a b : Bool} : CmpOk C .IsNot (.bool a) (.bool b) (!(a == b)) := fun A s X v1 v2 Q _ _ _ r1 r2 q => by
  simp only [Rep] at r1 r2; subst r1; subst r2
  show wpAny _ A (do return .bool (!(← isSame (.bool a) (.bool b)))) Q _ s
  have e : (Value.bool a == Value.bool b) = (a == b) := by cases a <;> cases b <;> rfl
  refine wpAny_bind (wpAny_pure (wpAny_pure ?_))
  rw [e]; exact q _ (Kp.rfl _)
def nums (ns : List Int) : List D := ns.map D.int
theorem repAll_ints {X : List Addr} {h : Heap} : ∀ {ns : List Int} {vs : List Value}, RepAll X h (nums ns) vs → IntsAre vs ns
  | [], _, r => by simp only [nums, List.map_nil, RepAll] at r; subst r; exact .nil
  | n :: ns, _, r => by
    simp only [nums, List.map_cons, RepAll, Rep] at r
    obtain ⟨v, q, rfl, ⟨t, rfl⟩, r2⟩ := r
    exact .cons _ _ (repAll_ints r2)
theorem CmpOk.notInI {a : Int} {ns : List Int} : CmpOk C .NotIn (.int a) (.list (nums ns)) (!ns.contains a) := fun A s X v1 v2 Q _ _ _ r1 r2 q => by
  simp only [Rep] at r1 r2; obtain ⟨t, rfl⟩ := r1; obtain ⟨x, vs, rfl, hx, hl, ra⟩ := r2
  have hi := repAll_ints ra
  have key : ∀ y, y ∈ vs → ∃ b u, y = Value.int b u := hi.all
  refine SeqAt.notIn_listAt (fun y => match y with | .int b _ => b == a | _ => false) hl (fun y hy => ?_) ?_
  · obtain ⟨b, u, rfl⟩ := key y (by simpa using hy)
    exact SeqAt.EqAt.int_int b u a t
  · have e : (vs.toArray.any fun y => match y with | .int b _ => b == a | _ => false) = ns.contains a := by
      rw [List.any_toArray]
      clear hl ra key q
      induction hi with
      | nil => rfl
      | cons n t _ ih => simp only [List.any_cons, List.contains_cons, ih]; congr 1; simp [Bool.beq_comm, eq_comm]
    rw [e]; exact q _ (Kp.rfl _)
end
end Mine
end
section
open PySem PyProof.Rows
set_option linter.unusedVariables false
namespace Mine

-- equality over nested data
mutual
def toPy : D → PyData
  | .int i => .int i
  | .flt _ => .none
  | .bool b => .bool b
  | .none => .none
  | .list ds => .list (toPys ds)
  | .tup ds => .tuple (toPys ds)
def toPys : List D → List PyData
  | [] => []
  | d :: ds => toPy d :: toPys ds
end
mutual
def noF : D → Bool
  | .flt _ => false
  | .list ds => noFs ds
  | .tup ds => noFs ds
  | _ => true
def noFs : List D → Bool
  | [] => true
  | d :: ds => noF d && noFs ds
end
mutual
theorem rep_reads {X : List Addr} {h : Heap} : ∀ {d : D} {v : Value}, noF d = true → Rep X h d v → ∃ as, Reads h v (toPy d) as
  | .int i, v, _, r => by simp only [Rep] at r; obtain ⟨t, rfl⟩ := r; simp only [toPy]; exact ⟨[], .int i t⟩
  | .flt _, _, n, _ => by simp [noF] at n
  | .bool b, v, _, r => by simp only [Rep] at r; subst r; simp only [toPy]; exact ⟨[], .bool b⟩
  | .none, v, _, r => by simp only [Rep] at r; subst r; simp only [toPy]; exact ⟨[], .none⟩
  | .list ds, v, n, r => by
    simp only [Rep] at r
    obtain ⟨a, vs, rfl, _, ⟨o, ho, hc, m, hd⟩, ra⟩ := r
    obtain ⟨as, q⟩ := rep_readsAll (by simpa only [noF] using n) ra
    simp only [toPy]
    exact ⟨a :: as, .list ho hc hd (by simpa using q)⟩
  | .tup ds, v, n, r => by
    simp only [Rep] at r
    obtain ⟨a, vs, rfl, _, ⟨o, ho, hc, m, hd⟩, ra⟩ := r
    obtain ⟨as, q⟩ := rep_readsAll (by simpa only [noF] using n) ra
    simp only [toPy]
    exact ⟨as, .tuple ho hc hd (by simpa using q)⟩
theorem rep_readsAll {X : List Addr} {h : Heap} : ∀ {ds : List D} {vs : List Value}, noFs ds = true → RepAll X h ds vs → ∃ as, ReadsAll h vs (toPys ds) as
  | [], _, _, r => by simp only [RepAll] at r; subst r; simp only [toPys]; exact ⟨[], .nil⟩
  | d :: ds, _, n, r => by
    simp only [RepAll] at r
    obtain ⟨v, q, rfl, r1, r2⟩ := r
    simp only [noFs, Bool.and_eq_true] at n
    obtain ⟨a1, q1⟩ := rep_reads n.1 r1
    obtain ⟨a2, q2⟩ := rep_readsAll n.2 r2
    simp only [toPys]
    exact ⟨a1 ++ a2, .cons q1 q2⟩
end
mutual
theorem canLay_toPy : ∀ d : D, (toPy d).canLay0 = true
  | .int _ | .flt _ | .bool _ | .none => by simp only [toPy]; rfl
  | .list ds => by simp only [toPy, PyData.canLay0]; exact canLay_toPys ds
  | .tup ds => by simp only [toPy, PyData.canLay0]; exact canLay_toPys ds
theorem canLay_toPys : ∀ ds : List D, PyData.canLayAll0 (toPys ds) = true
  | [] => by simp only [toPys]; rfl
  | d :: ds => by simp only [toPys, PyData.canLayAll0, canLay_toPy d, canLay_toPys ds]; rfl
end
def Flat (d : D) : Prop := noF d = true ∧ (toPy d).depth ≤ 64
section
variable {C : PC}
theorem CmpOk.eqD {a b : D} (ha : Flat a) (hb : Flat b) : CmpOk C .Eq a b (PyData.eqv (toPy a) (toPy b)) := fun A s X v1 v2 Q g _ _ r1 r2 q => by
  obtain ⟨as, ra⟩ := rep_reads ha.1 r1
  obtain ⟨bs, rb⟩ := rep_reads hb.1 r2
  refine SeqAt.compareEq_shaped ra rb (by simp [SeqAt.shaped, canLay_toPy, ha.2]) (by simp [SeqAt.shaped, canLay_toPy, hb.2]) (by have := g.2.2; omega) (q _ (Kp.rfl _))
theorem CmpOk.neD {a b : D} (ha : Flat a) (hb : Flat b) : CmpOk C .NotEq a b (!PyData.eqv (toPy a) (toPy b)) := fun A s X v1 v2 Q g _ _ r1 r2 q => by
  obtain ⟨as, ra⟩ := rep_reads ha.1 r1
  obtain ⟨bs, rb⟩ := rep_reads hb.1 r2
  refine SeqAt.compareNe_shaped ra rb (by simp [SeqAt.shaped, canLay_toPy, ha.2]) (by simp [SeqAt.shaped, canLay_toPy, hb.2]) (by have := g.2.2; omega) (q _ (Kp.rfl _))
theorem CmpOk.neSame {a : D} (ha : Flat a) : CmpOk C .NotEq a a false := by
  have := CmpOk.neD (C := C) ha ha
  rwa [SeqAt.eqv_refl _ (canLay_toPy a)] at this
theorem CmpOk.eqSame {a : D} (ha : Flat a) : CmpOk C .Eq a a true := by
  have := CmpOk.eqD (C := C) ha ha
  rwa [SeqAt.eqv_refl _ (canLay_toPy a)] at this
theorem noFs_nums : ∀ ns : List Int, noFs (nums ns) = true
  | [] => rfl
  | n :: ns => by simp only [nums, List.map_cons, noFs, noF, Bool.true_and]; exact noFs_nums ns
theorem depth_nums : ∀ ns : List Int, PyData.depthAll (toPys (nums ns)) = 0
  | [] => rfl
  | n :: ns => by
    have := depth_nums ns
    simp only [nums] at this
    simp only [nums, List.map_cons, toPys, toPy, PyData.depthAll, PyData.depth, this]; rfl
theorem flat_nums (ns : List Int) : Flat (.list (nums ns)) := ⟨by simp only [noF]; exact noFs_nums ns, by simp only [toPy, PyData.depth, depth_nums]; omega⟩
theorem flat_pair (ns ms : List Int) : Flat (.tup [.list (nums ns), .list (nums ms)]) := ⟨by simp only [noF, noFs, noFs_nums]; rfl, by simp only [toPy, toPys, PyData.depth, PyData.depthAll, depth_nums]; omega⟩
def rows (l : List (List Int)) : List D := l.map fun ns => .list (nums ns)
theorem noFs_rows : ∀ l, noFs (rows l) = true
  | [] => rfl
  | n :: ns => by
    have := noFs_rows ns
    simp only [rows] at this
    simp only [rows, List.map_cons, noFs, noF, noFs_nums, this]; rfl
theorem depth_rows : ∀ l, PyData.depthAll (toPys (rows l)) ≤ 1
  | [] => by decide
  | n :: ns => by
    have := depth_rows ns
    simp only [rows] at this
    simp only [rows, List.map_cons, toPys, toPy, PyData.depthAll, PyData.depth, depth_nums]; omega
theorem flat_rows (l : List (List Int)) : Flat (.list (rows l)) := ⟨by simp only [noF]; exact noFs_rows l, by simp only [toPy, PyData.depth]; have := depth_rows l; omega⟩
theorem CmpOk.neNil {ns : List Int} : CmpOk C .NotEq (.list (nums ns)) (.list []) (!ns.isEmpty) := by
  have := CmpOk.neD (C := C) (flat_nums ns) (flat_nums [])
  cases ns <;> simpa [nums, toPy, toPys, PyData.eqv, PyData.eqvAll] using this
theorem CmpOk.eqNil {ns : List Int} : CmpOk C .Eq (.list (nums ns)) (.list []) ns.isEmpty := by
  have := CmpOk.eqD (C := C) (flat_nums ns) (flat_nums [])
  cases ns <;> simpa [nums, toPy, toPys, PyData.eqv, PyData.eqvAll] using this
end
end Mine
end
section
open PySem PyProof.Rows
set_option linter.unusedVariables false
namespace Mine

structure Blt (C : PC) (x : Str) (v : Value) : Prop where
  miss : C.mg x = none
  has : C.mb x = some v

def BOk (C : PC) (f : Value) (ds : List D) (d : D) : Prop :=
  ∀ (A : Around) (s : Shared) (X : List Addr) (vs : List Value) (Q : Value → Shared → Prop), Good A 0 → Sub C.base s.heap → (∀ a ∈ X, ∃ o, s.heap.get? a = some o) → RepAll X s.heap ds vs →
    (∀ v s', Kp s s' → Rep X s'.heap d v → Q v s') → wpAny (model C.prog C.w) A (call f vs) Q Never s

/-- a def's contract, for these arguments -/
def Ctr (C : PC) (j : Nat) (f : Str) (ds : List D) (r : D) : Prop :=
  ∃ a o fd, C.mg f = some (.ref a) ∧ C.base.get? a = some o ∧ o.data = .func fd ∧
    ∀ (A : Around) (s : Shared) (X : List Addr) (vs : List Value) (Q : Value → Shared → Prop), Good A j → Sub C.base s.heap → (∀ a ∈ X, ∃ o, s.heap.get? a = some o) → RepAll X s.heap ds vs →
      (∀ v s', Kp s s' → Rep X s'.heap r v → Q v s') → wpAny (model C.prog C.w) A (call (.ref a) vs) Q Never s

section
variable {C : PC} {k : Nat} {env : Env} {X : List Addr} {l : List (Str × D)}

theorem Ev.callB {x : Str} {p pos : Pos} {e : PySem.Expr} {rest : List PySem.Expr} {id : String} {ds : List D} {d : D} (hb : Blt C x (.builtin id)) (hk : env.kindOf x = some .globalImplicit)
    (ha : EvAll C k env X l (e :: rest) ds) (ho : BOk C (.builtin id) ds d) (hd : (x == ("__debug__" : Str)) = false)
    (he : starEach (e :: rest) env = (false, eval e env) :: starEach rest env) (hp : (backTo pos (starEach rest env)).any (·.1) = false) : Ev C k env X l (.Call (.Name x p) (e :: rest) [] pos) d := fun A s Q i q =>
  Call_ (Calls.Name_function_global i.eok.kind hk (Calls.loadGlobal_builtin (mg := C.mg) (mb := C.mb) (by rw [i.eok.glob]; exact C.hg.keeps i.base) hb.miss (by rw [i.eok.blt]; exact C.hb.keeps i.base) hb.has
    (callWith_builtin1 (ha A s pos _ i fun vs s1 k1 r1 => ho A s1 X vs Q i.good.zero (i.up k1).base (i.up k1).alive r1 fun v s2 k2 r2 => q v s2 (k1.trans k2) r2) he hp)) hd)
theorem Ev.callT {x : Str} {p pos : Pos} {e : PySem.Expr} {rest : List PySem.Expr} {T : String} {ds : List D} {d : D} (hb : Blt C x (.type T)) (hk : env.kindOf x = some .globalImplicit)
    (ha : EvAll C k env X l (e :: rest) ds) (ho : BOk C (.type T) ds d) (hd : (x == ("__debug__" : Str)) = false)
    (he : starEach (e :: rest) env = (false, eval e env) :: starEach rest env) (hp : (backTo pos (starEach rest env)).any (·.1) = false) : Ev C k env X l (.Call (.Name x p) (e :: rest) [] pos) d := fun A s Q i q =>
  Call_ (Calls.Name_function_global i.eok.kind hk (Calls.loadGlobal_builtin (mg := C.mg) (mb := C.mb) (by rw [i.eok.glob]; exact C.hg.keeps i.base) hb.miss (by rw [i.eok.blt]; exact C.hb.keeps i.base) hb.has
    (PyProof.Rows.callWith_type1 (ha A s pos _ i fun vs s1 k1 r1 => ho A s1 X vs Q i.good.zero (i.up k1).base (i.up k1).alive r1 fun v s2 k2 r2 => q v s2 (k1.trans k2) r2) he hp)) hd)
theorem Ev.callF {f : Str} {p pos : Pos} {e : PySem.Expr} {rest : List PySem.Expr} {j : Nat} {ds : List D} {r : D} (hc : Ctr C j f ds r) (hj : j ≤ k) (hk : env.kindOf f = some .globalImplicit)
    (ha : EvAll C k env X l (e :: rest) ds) (hd : (f == ("__debug__" : Str)) = false)
    (he : starEach (e :: rest) env = (false, eval e env) :: starEach rest env) : Ev C k env X l (.Call (.Name f p) (e :: rest) [] pos) r := fun A s Q i q => by
  obtain ⟨a, o, fd, hm, ho, hdat, hc⟩ := hc
  exact Call_ (Calls.Name_function_global i.eok.kind hk (Calls.loadGlobal_global (mg := C.mg) (by rw [i.eok.glob]; exact C.hg.keeps i.base) hm
    (callWith_def hdat (ha A s pos _ i fun vs s1 k1 r1 => ⟨(i.up k1).base _ _ ho, hc A s1 X vs Q (i.good.le hj) (i.up k1).base (i.up k1).alive r1 fun v s2 k2 r2 => q v s2 (k1.trans k2) r2⟩) he)) hd)

set_option maxRecDepth 100000 in
theorem Ev.bitLength {x : Str} {p ap pos : Pos} {n : Int} (h : Ev C k env X l (.Name x p) (.int n)) (hap : ap.endLine = pos.line) :
    Ev C k env X l (.Call (.Attribute (.Name x p) (Str.ofString "bit_length") ap) [] [] pos) (.int (Builtin.Int.intBits n)) := fun A s Q i q => by
  have e : ∀ v, attributeBase (.Name x p) (Str.ofString "bit_length") env v = v := fun v => rfl
  show wpAny _ A (do
    let ov ← attributeBase (.Name x p) (Str.ofString "bit_length") env (eval (.Name x p) env)
    standAt ap.atName
    methodCall (.Name x p) (Str.ofString "bit_length") ap pos env ov 0 [] []) Q Never s
  rw [e]
  refine wpAny_bind (h A s _ i fun v s1 k1 r1 => ?_)
  simp only [Rep] at r1
  obtain ⟨t, rfl⟩ := r1
  refine wpAny_bind (wpAny_standAt ?_)
  unfold methodCall
  refine wpAny_bind (wpAny_holding ?_)
  show wpAny _ A (getMethod (.int n t) (Str.ofString "bit_length") _) _ _ _
  refine getMethod_int_bit_length ?_
  refine wpAny_bind ?_
  have e2 : methodCallPos (methodCallForm 0 [] []) (.Name x p) env ap pos = pure pos := by
    unfold methodCallPos
    rw [show (!methodCallForm 0 [] [] || ap.endLine == pos.line) = true by rw [hap]; simp]; rfl
  rw [e2]
  refine wpAny_pure ?_
  exact callWith_method0 (env := env) (call_int_bit_length (q _ _ (k1.trans (Kp.tok _ _)) (by simp only [Rep]; exact ⟨_, rfl⟩)))

theorem Ev.index {b sl : PySem.Expr} {pos : Pos} {ds : List D} {i : Int} {d : D} (hb : Ev C k env X l b (.list ds)) (hs : Ev C k env X l sl (.int i)) (h0 : 0 ≤ i) (hx : ds[i.toNat]? = some d) (hi : i < 2 ^ 63)
    (hsl : ∀ o v, subscripted sl false o v = operate [o, v] (getItem o v)) : Ev C k env X l (.Subscript b sl pos) d := fun A s Q ip q =>
  Subscript_ (hb A s _ ip fun v s1 k1 r1 => hs A s1 _ (ip.up k1) fun w s2 k2 r2 => by
    have r1 := r1.up k2.sub
    simp only [Rep] at r1 r2
    obtain ⟨a, vs, rfl, hxa, hl, ra⟩ := r1
    obtain ⟨t, rfl⟩ := r2
    obtain ⟨y, hy, ry⟩ := ra.get hx
    exact tail_any hl.typeIs slot_list_getitem.lookup (wpAny_getItem_list hl h0 hi (by simpa using hy) (q _ _ (k1.trans k2) ry)) (hsl _ _))
theorem Ev.indexNeg {b sl : PySem.Expr} {pos : Pos} {ds : List D} {i : Int} {d : D} (hb : Ev C k env X l b (.list ds)) (hs : Ev C k env X l sl (.int i)) (h0 : i < 0) (h1 : -(ds.length : Int) ≤ i) (hx : ds[(i + ds.length).toNat]? = some d) (hi : -(2 ^ 63) ≤ i)
    (hsl : ∀ o v, subscripted sl false o v = operate [o, v] (getItem o v)) : Ev C k env X l (.Subscript b sl pos) d := fun A s Q ip q =>
  Subscript_ (hb A s _ ip fun v s1 k1 r1 => hs A s1 _ (ip.up k1) fun w s2 k2 r2 => by
    have r1 := r1.up k2.sub
    simp only [Rep] at r1 r2
    obtain ⟨a, vs, rfl, hxa, hl, ra⟩ := r1
    obtain ⟨t, rfl⟩ := r2
    obtain ⟨y, hy, ry⟩ := ra.get hx
    have hlen := ra.length
    exact tail_any hl.typeIs slot_list_getitem.lookup (wpAny_getItem_list_neg hl h0 (by simpa [hlen] using h1) hi (by simpa [hlen] using hy) (q _ _ (k1.trans k2) ry)) (hsl _ _))
theorem Ev.indexT {b sl : PySem.Expr} {pos : Pos} {ds : List D} {i : Int} {d : D} (hb : Ev C k env X l b (.tup ds)) (hs : Ev C k env X l sl (.int i)) (h0 : 0 ≤ i) (hx : ds[i.toNat]? = some d) (hi : i < 2 ^ 63)
    (hsl : ∀ o v, subscripted sl false o v = operate [o, v] (getItem o v)) : Ev C k env X l (.Subscript b sl pos) d := fun A s Q ip q =>
  Subscript_ (hb A s _ ip fun v s1 k1 r1 => hs A s1 _ (ip.up k1) fun w s2 k2 r2 => by
    have r1 := r1.up k2.sub
    simp only [Rep] at r1 r2
    obtain ⟨a, vs, rfl, hxa, hl, ra⟩ := r1
    obtain ⟨t, rfl⟩ := r2
    obtain ⟨y, hy, ry⟩ := ra.get hx
    have hlt : i.toNat < ds.length := by
      rcases Nat.lt_or_ge i.toNat ds.length with h | h
      · exact h
      · rw [List.getElem?_eq_none h] at hx; cases hx
    have hlen := ra.length
    exact item_tupleT hl (by omega) hi (seqIndex_of h0 (by omega)) hy (q _ _ (k1.trans k2) ry) (hsl _ _))

def Part (C : PC) (k : Nat) (env : Env) (X : List Addr) (l : List (Str × D)) (e : Option PySem.Expr) (i : Option Int) : Prop :=
  match e, i with
  | none, none => True
  | some e, some i => Ev C k env X l e (.int i)
  | _, _ => False
theorem part_eval {e : Option PySem.Expr} {i : Option Int} (h : Part C k env X l e i) {A : Around} {s : Shared} {Q : Value → Shared → Prop} (ip : Inp C k env X l A s)
    (q : ∀ v s', Kp s s' → IsPart v i → Q v s') : wpAny (model C.prog C.w) A (evalPart e env) Q Never s := by
  cases e with
  | none =>
    cases i with
    | none => rw [evalPart_none]; exact wpAny_pure (q _ _ (Kp.rfl s) .none)
    | some i => exact h.elim
  | some e =>
    cases i with
    | none => exact h.elim
    | some i =>
      rw [evalPart_some]
      refine (show Ev C k env X l e (.int i) from h) A s Q ip fun v s' k' r => ?_
      simp only [Rep] at r
      obtain ⟨t, rfl⟩ := r
      exact q _ _ k' (.int i t)
theorem Ev.slice {b : PySem.Expr} {lo up : Option PySem.Expr} {p pos : Pos} {ds es : List D} {i j : Option Int} (hb : Ev C k env X l b (.list ds)) (hlo : Part C k env X l lo i) (hup : Part C k env X l up j) (hz : ds.length ≤ 1000)
    (hes : ∀ (Y : List Addr) (h : Heap) (vs : List Value), RepAll Y h ds vs → RepAll Y h es (slicePick vs.toArray i j none).toList) : Ev C k env X l (.Subscript b (.Slice lo up none p) pos) (.list es) := fun A s Q ip q =>
  Subscript_ (hb A s _ ip fun v s1 k1 r1 => wpAny_Slice (part_eval hlo (ip.up k1) fun vl s2 k2 pl => part_eval hup ((ip.up k1).up k2) fun vu s3 k3 pu => by
    rw [evalPart_none]
    refine wpAny_pure ?_
    have ip3 := ((ip.up k1).up k2).up k3
    have r1 := r1.up (k2.trans k3).sub
    simp only [Rep] at r1
    obtain ⟨a, vs, rfl, hxa, hl, ra⟩ := r1
    have hl' := hl.push { cls := .type "slice", data := .fields #[vl, vu, .none] }
    refine tail_any (Heap.IsList.typeIs (s := { s3 with heap := s3.heap.push { cls := .type "slice", data := .fields #[vl, vu, .none] } }) hl') slot_list_getitem.lookup
      (wpAny_getItem_list_slice hl' (Heap.IsSliceOf.new ..) pl pu .none (by simp) ?_ (by rw [List.size_toArray, ra.length, show sizeLine = 16777216 from rfl]; omega)) rfl
    have kk := Kp.push s3 { cls := .type "slice", data := .fields #[vl, vu, .none] }
    have al := (ip3.up kk).alive
    have := rep_push_list al (hes X _ vs (ra.up kk.sub))
    rw [show (slicePick vs.toArray i j none).toList.toArray = slicePick vs.toArray i j none from by simp] at this
    exact q _ _ (((k1.trans k2).trans k3).trans (kk.trans (Kp.push _ _))) this))
theorem Ev.sliceTo {b e : PySem.Expr} {p pos : Pos} {ds : List D} {n : Nat} (hb : Ev C k env X l b (.list ds)) (he : Ev C k env X l e (.int n)) (hz : ds.length ≤ 1000) : Ev C k env X l (.Subscript b (.Slice none (some e) none p) pos) (.list (ds.take n)) :=
  Ev.slice (i := none) (j := some (n : Int)) hb trivial he hz fun Y h vs r => by rw [slicePick_upto']; simpa using r.take n
theorem Ev.sliceFrom {b e : PySem.Expr} {p pos : Pos} {ds : List D} {n : Nat} (hb : Ev C k env X l b (.list ds)) (he : Ev C k env X l e (.int n)) (hz : ds.length ≤ 1000) : Ev C k env X l (.Subscript b (.Slice (some e) none none p) pos) (.list (ds.drop n)) :=
  Ev.slice (i := some (n : Int)) (j := none) hb he trivial hz fun Y h vs r => by rw [slicePick_from']; simpa using r.drop n
end
end Mine
end
section
open PySem PyProof.Rows
set_option linter.unusedVariables false
namespace Mine
section
variable {C : PC}

theorem BOk.len {ds : List D} (hz : ds.length ≤ 1000) : BOk C (.builtin "len") [.list ds] (.int ds.length) := fun A s X vs Q g _ _ r q => by
  simp only [RepAll, Rep] at r
  obtain ⟨v, w, rfl, ⟨a, xs, rfl, hx, hl, ra⟩, rfl⟩ := r
  have hlen := ra.length
  refine Calls.call_len_list hl (by rw [List.size_toArray, hlen]; omega) ?_
  rw [List.size_toArray, hlen]
  exact q _ _ (Kp.tok _ _) (by simp only [Rep]; exact ⟨_, rfl⟩)
theorem BOk.intF {x : UInt64} {sg : Bool} {m : Nat} {e : Int} (hd : Float64.decode x = .fin sg m e) : BOk C (.type "int") [.flt x] (.int (Float64.truncOf sg m e)) := fun A s X vs Q g _ _ r q => by
  simp only [RepAll, Rep] at r
  obtain ⟨v, w, rfl, ⟨t, rfl⟩, rfl⟩ := r
  exact call_int_float hd (q _ _ (Kp.tok _ _) (by simp only [Rep]; exact ⟨_, rfl⟩))

def fAt (a b c : UInt64) : Nat → UInt64
  | 0 => a
  | 1 => b
  | _ => c
theorem f3_at {a b c : UInt64} {t u x : Tok} {i : Nat} {v : Value} (h : (#[Value.float a t, .float b u, .float c x])[i]? = some v) : ∃ w, v = .float (fAt a b c i) w := by
  match i, h with
  | 0, h => simp at h; subst h; exact ⟨_, rfl⟩
  | 1, h => simp at h; subst h; exact ⟨_, rfl⟩
  | 2, h => simp at h; subst h; exact ⟨_, rfl⟩
  | n + 3, h => simp at h
theorem CmpOf.f_gt {prog : Program} {w : World} {A : Around} {P : Nat → Value → Prop} (val : Nat → UInt64) (hval : ∀ i v, P i v → ∃ t, v = .float (val i) t) :
    CmpOf prog w A .Gt P (fun i j => Float64.cmp (val i) (val j) == some .gt) := fun i j vi vj s Q E hi hj h => by
  obtain ⟨t, rfl⟩ := hval i vi hi
  obtain ⟨u, rfl⟩ := hval j vj hj
  exact AutoFloatOps.gt_0 h
theorem CmpOf.f_lt {prog : Program} {w : World} {A : Around} {P : Nat → Value → Prop} (val : Nat → UInt64) (hval : ∀ i v, P i v → ∃ t, v = .float (val i) t) :
    CmpOf prog w A .Lt P (fun i j => Float64.cmp (val i) (val j) == some .lt) := fun i j vi vj s Q E hi hj h => by
  obtain ⟨t, rfl⟩ := hval i vi hi
  obtain ⟨u, rfl⟩ := hval j vj hj
  exact AutoFloatOps.lt_0 h
def fmax (a b : UInt64) : UInt64 := if Float64.cmp b a == some .gt then b else a
def fmin (a b : UInt64) : UInt64 := if Float64.cmp b a == some .lt then b else a
theorem best_max (a b c : UInt64) : fAt a b c (argBest (fun i j => Float64.cmp (fAt a b c i) (fAt a b c j) == some .gt) 2) = fmax (fmax a b) c := by
  unfold fmax
  by_cases h1 : Float64.cmp b a = some Ordering.gt
  · by_cases h2 : Float64.cmp c b = some Ordering.gt <;> simp [argBest, fAt, h1, h2]
  · by_cases h2 : Float64.cmp c a = some Ordering.gt <;> simp [argBest, fAt, h1, h2]
theorem best_min (a b c : UInt64) : fAt a b c (argBest (fun i j => Float64.cmp (fAt a b c i) (fAt a b c j) == some .lt) 2) = fmin (fmin a b) c := by
  unfold fmin
  by_cases h1 : Float64.cmp b a = some Ordering.lt
  · by_cases h2 : Float64.cmp c b = some Ordering.lt <;> simp [argBest, fAt, h1, h2]
  · by_cases h2 : Float64.cmp c a = some Ordering.lt <;> simp [argBest, fAt, h1, h2]
theorem BOk.max3 {a b c : UInt64} : BOk C (.builtin "max") [.flt a, .flt b, .flt c] (.flt (fmax (fmax a b) c)) := fun A s X vs Q g _ _ r q => by
  simp only [RepAll, Rep] at r
  obtain ⟨v, w, rfl, ⟨t, rfl⟩, v2, w2, rfl, ⟨u, rfl⟩, v3, w3, rfl, ⟨x, rfl⟩, rfl⟩ := r
  have hT : (s.heap.push { cls := .type "tuple", data := .seq #[.float a t, .float b u, .float c x] }).IsTuple s.heap.objs.size #[.float a t, .float b u, .float c x] := ⟨_, Heap.get?_push_size _ rfl, rfl, 0, rfl⟩
  refine call_max_three (wpAny_pyIter_tuple hT ?_)
  have hsz : (s.heap.push { cls := .type "tuple", data := .seq #[.float a t, .float b u, .float c x] }).objs.size = s.heap.objs.size + 1 := Heap.size_push ..
  refine ⟨_, [_, s.heap.objs.size], [_], _, _, _, _, rfl, Walks.tuple (A := A.in1) g.1 _ s.heap.objs.size (by rw [hsz]; exact Nat.ne_of_lt (Nat.lt_succ_self _)) #[.float a t, .float b u, .float c x],
    ⟨⟨_, Heap.get?_push_size _ rfl, rfl, rfl⟩, hT.push _⟩, fun d hd => ?_, by simp, CmpOf.f_gt (fAt a b c) (fun _ _ => f3_at), fun v h' tk hP hk => ?_⟩
  · show d < ((s.heap.push _).push _).objs.size
    rw [Heap.size_push, hsz]
    rcases List.mem_cons.mp hd with rfl | hd
    · rw [hsz]; exact Nat.lt_succ_self _
    · rcases List.mem_cons.mp hd with rfl | hd
      · exact Nat.lt_succ_of_lt (Nat.lt_succ_self _)
      · cases hd
  · have hold : ∀ d o, s.heap.get? d = some o → h'.get? d = some o := fun d o e => by
      refine hk d o (fun hm => ?_) (Heap.get?_push_of_some _ (Heap.get?_push_of_some _ e))
      rcases List.mem_cons.mp hm with e1 | hm
      · have := Heap.lt_size e; rw [e1, hsz] at this; exact Nat.lt_irrefl _ (Nat.lt_of_succ_lt this)
      · cases hm
    obtain ⟨y, rfl⟩ := f3_at hP
    refine q _ _ ⟨h', tk, rfl, hold⟩ ?_
    simp only [Rep]
    exact ⟨y, by rw [← best_max]; rfl⟩
theorem BOk.min3 {a b c : UInt64} : BOk C (.builtin "min") [.flt a, .flt b, .flt c] (.flt (fmin (fmin a b) c)) := fun A s X vs Q g _ _ r q => by
  simp only [RepAll, Rep] at r
  obtain ⟨v, w, rfl, ⟨t, rfl⟩, v2, w2, rfl, ⟨u, rfl⟩, v3, w3, rfl, ⟨x, rfl⟩, rfl⟩ := r
  have hT : (s.heap.push { cls := .type "tuple", data := .seq #[.float a t, .float b u, .float c x] }).IsTuple s.heap.objs.size #[.float a t, .float b u, .float c x] := ⟨_, Heap.get?_push_size _ rfl, rfl, 0, rfl⟩
  refine call_min_three (wpAny_pyIter_tuple hT ?_)
  have hsz : (s.heap.push { cls := .type "tuple", data := .seq #[.float a t, .float b u, .float c x] }).objs.size = s.heap.objs.size + 1 := Heap.size_push ..
  refine ⟨_, [_, s.heap.objs.size], [_], _, _, _, _, rfl, Walks.tuple (A := A.in1) g.1 _ s.heap.objs.size (by rw [hsz]; exact Nat.ne_of_lt (Nat.lt_succ_self _)) #[.float a t, .float b u, .float c x],
    ⟨⟨_, Heap.get?_push_size _ rfl, rfl, rfl⟩, hT.push _⟩, fun d hd => ?_, by simp, CmpOf.f_lt (fAt a b c) (fun _ _ => f3_at), fun v h' tk hP hk => ?_⟩
  · show d < ((s.heap.push _).push _).objs.size
    rw [Heap.size_push, hsz]
    rcases List.mem_cons.mp hd with rfl | hd
    · rw [hsz]; exact Nat.lt_succ_self _
    · rcases List.mem_cons.mp hd with rfl | hd
      · exact Nat.lt_succ_of_lt (Nat.lt_succ_self _)
      · cases hd
  · have hold : ∀ d o, s.heap.get? d = some o → h'.get? d = some o := fun d o e => by
      refine hk d o (fun hm => ?_) (Heap.get?_push_of_some _ (Heap.get?_push_of_some _ e))
      rcases List.mem_cons.mp hm with e1 | hm
      · have := Heap.lt_size e; rw [e1, hsz] at this; exact Nat.lt_irrefl _ (Nat.lt_of_succ_lt this)
      · cases hm
    obtain ⟨y, rfl⟩ := f3_at hP
    refine q _ _ ⟨h', tk, rfl, hold⟩ ?_
    simp only [Rep]
    exact ⟨y, by rw [← best_min]; rfl⟩
theorem BOk.sum {ns : List Int} : BOk C (.builtin "sum") [.list (nums ns)] (.int ns.sum) := fun A s X vs Q g _ _ r q => by
  simp only [RepAll, Rep] at r
  obtain ⟨v, w, rfl, ⟨a, xs, rfl, hx, hl, ra⟩, rfl⟩ := r
  have hi := repAll_ints ra
  obtain ⟨ys, hys⟩ := hi.allInts.items
  have hns : ns = ys.toList.map (·.1) := by rw [← hi.numsOf, ← nums_intItems, ← hys]
  rw [hys] at hl
  refine sum_intListG g.1 hl fun h' tk t' hk => ?_
  refine q _ _ ⟨h', tk, rfl, hk⟩ ?_
  simp only [Rep]
  exact ⟨t', by rw [hns, preSum_eq, List.take_of_length_le (by simp)]⟩
end
end Mine
end
section
open PySem PyProof.Rows
set_option linter.unusedVariables false
namespace Mine

structure FEnv (env : Env) (sc : Scope) : Prop where
  scope : env.scope = sc
  cells : env.cells = cellsFrom (env.locals + 1) sc.names []

structure CEnv (env' : Env) (scope : Scope) (env : Env) : Prop where
  scope : env'.scope = relabel scope env

theorem gk_fun {env : Env} {sc : Scope} (h : FEnv env sc) {f : Str} {kd : NameKind} (hd : sc.names.lookup f = some kd) : env.kindOf f = some kd := by
  unfold Env.kindOf; rw [h.scope]; exact hd
theorem lookup_relabel {env : Env} {kd : NameKind} (hk : kd ≠ .free) : ∀ {names : List (Str × NameKind)} {x : Str}, names.lookup x = some kd →
    (names.map fun (n, k) => if (k == NameKind.free && env.scope.kind == .function && env.kindOf n == some .cell) then (n, NameKind.cell) else (n, k)).lookup x = some kd
  | [], _, h => by simp at h
  | (n, k) :: r, x, h => by
    have ih := @lookup_relabel env kd hk r x
    show List.lookup x ((if (k == NameKind.free && env.scope.kind == .function && env.kindOf n == some .cell) = true then (n, NameKind.cell) else (n, k)) :: _) = _
    cases hx : x == n with
    | true =>
      simp only [List.lookup_cons, hx] at h
      cases h
      have : (kd == NameKind.free) = false := by simpa using hk
      rw [this]
      simp only [Bool.false_and, Bool.false_eq_true, if_false, List.lookup_cons, hx]
    | false =>
      simp only [List.lookup_cons, hx] at h
      by_cases hc : (k == NameKind.free && env.scope.kind == .function && env.kindOf n == some .cell) = true
      · rw [if_pos hc]; simp only [List.lookup_cons, hx]; exact ih h
      · rw [if_neg hc]; simp only [List.lookup_cons, hx]; exact ih h
theorem lookup_relabel_free {env : Env} {x : Str} (hf : env.scope.kind = .function) (hc : env.kindOf x = some .cell) : ∀ {names : List (Str × NameKind)}, names.lookup x = some .free →
    (names.map fun (n, k) => if (k == NameKind.free && env.scope.kind == .function && env.kindOf n == some .cell) then (n, NameKind.cell) else (n, k)).lookup x = some .cell
  | [], h => by simp at h
  | (n, k) :: r, h => by
    have ih := @lookup_relabel_free env x hf hc r
    show List.lookup x ((if (k == NameKind.free && env.scope.kind == .function && env.kindOf n == some .cell) = true then (n, NameKind.cell) else (n, k)) :: _) = _
    cases hx : x == n with
    | true =>
      simp only [List.lookup_cons, hx] at h
      cases h
      have e : x = n := beq_iff_eq.mp hx
      subst e
      simp [List.lookup_cons, hf, hc]
    | false =>
      simp only [List.lookup_cons, hx] at h
      by_cases hc : (k == NameKind.free && env.scope.kind == .function && env.kindOf n == some .cell) = true
      · rw [if_pos hc]; simp only [List.lookup_cons, hx]; exact ih h
      · rw [if_neg hc]; simp only [List.lookup_cons, hx]; exact ih h
theorem gk_comp {env' env : Env} {scope : Scope} (h : CEnv env' scope env) {f : Str} {kd : NameKind} (hd : scope.names.lookup f = some kd) (hk : kd ≠ .free) : env'.kindOf f = some kd := by
  unfold Env.kindOf; rw [h.scope]; exact lookup_relabel hk hd

-- the closure of a comprehension's block
def closeOf (env : Env) : List (Str × NameKind) → List (Str × Addr) → List (Str × Addr)
  | [], acc => acc
  | (n, k) :: r, acc => if k == .free then closeOf env r ((n, (env.cells.lookup n).getD 0) :: acc) else closeOf env r acc
theorem closureFor_eq {scope : Scope} {env : Env} (h : ∀ p ∈ scope.names, p.2 = .free → (env.cells.lookup p.1).isSome = true) : closureFor scope env = pure (closeOf env scope.names []) := by
  have key : ∀ (names : List (Str × NameKind)) (acc : List (Str × Addr)), (∀ p ∈ names, p.2 = .free → (env.cells.lookup p.1).isSome = true) →
      (forIn names acc fun (x : Str × NameKind) (r : List (Str × Addr)) => if (x.2 == NameKind.free) = true then do let a ← cellOf env x.1; pure (ForInStep.yield ((x.1, a) :: r)) else pure (ForInStep.yield r) : Sem (List (Str × Addr))) = pure (closeOf env names acc) := by
    intro names
    induction names with
    | nil => intro acc _; rfl
    | cons x r ih =>
      intro acc hh
      obtain ⟨n, k⟩ := x
      rw [List.forIn_cons]
      unfold closeOf
      by_cases hk : (k == NameKind.free) = true
      · simp only [hk, if_true]
        have hs := hh (n, k) List.mem_cons_self (by simpa using hk)
        obtain ⟨c, hc⟩ := Option.isSome_iff_exists.mp hs
        have e : cellOf env n = pure c := by unfold cellOf; rw [show env.cells.lookup n = some c from hc]
        rw [e, show (env.cells.lookup n).getD 0 = c by rw [show env.cells.lookup n = some c from hc]; rfl]
        exact ih _ fun p hp => hh p (List.mem_cons_of_mem _ hp)
      · simp only [hk]
        exact ih _ fun p hp => hh p (List.mem_cons_of_mem _ hp)
  have := key scope.names [] h
  unfold closureFor
  show (forIn scope.names [] _ >>= fun r => pure r) = _
  rw [bind_pure]
  rw [← this]
theorem closeOf_lookup {env : Env} {y : Str} {c : Addr} (hc : env.cells.lookup y = some c) : ∀ (names : List (Str × NameKind)) (acc : List (Str × Addr)),
    (names.lookup y = some .free ∨ acc.lookup y = some c) → (acc.lookup y = none ∨ acc.lookup y = some c) → (closeOf env names acc).lookup y = some c
  | [], acc, h, _ => by
    unfold closeOf
    rcases h with h | h
    · simp at h
    · exact h
  | (n, k) :: r, acc, h, h2 => by
    unfold closeOf
    cases hx : y == n with
    | true =>
      have e : y = n := beq_iff_eq.mp hx
      subst e
      by_cases hk : (k == NameKind.free) = true
      · simp only [hk, if_true]
        exact closeOf_lookup hc r _ (.inr (by simp [List.lookup_cons, hc])) (.inr (by simp [List.lookup_cons, hc]))
      · simp only [hk]
        refine closeOf_lookup hc r acc ?_ h2
        rcases h with h | h
        · simp only [List.lookup_cons, beq_self_eq_true] at h
          cases h
          simp at hk
        · exact .inr h
    | false =>
      have h' : r.lookup y = some .free ∨ acc.lookup y = some c := by
        rcases h with h | h
        · simp only [List.lookup_cons, hx] at h; exact .inl h
        · exact .inr h
      by_cases hk : (k == NameKind.free) = true
      · simp only [hk, if_true]
        refine closeOf_lookup hc r _ ?_ ?_
        · rcases h' with h | h
          · exact .inl h
          · exact .inr (by simp only [List.lookup_cons, hx]; exact h)
        · simpa only [List.lookup_cons, hx] using h2
      · simp only [hk]
        exact closeOf_lookup hc r acc h' h2

/-- captured names -/
inductive Caps (l : List (Str × D)) (scope sc : Scope) : List (Str × D) → Prop
  | nil : Caps l scope sc []
  | cons {y : Str} {e : D} {lc : List (Str × D)} : Has l y e → scope.names.lookup y = some .free → sc.names.lookup y = some .cell → Caps l scope sc lc → Caps l scope sc ((y, e) :: lc)
theorem Caps.has {l : List (Str × D)} {scope sc : Scope} : ∀ {lc : List (Str × D)}, Caps l scope sc lc → ∀ {y : Str} {e : D}, Has lc y e → Has l y e ∧ scope.names.lookup y = some .free ∧ sc.names.lookup y = some .cell
  | _, .cons h1 h2 h3 r, _, _, hh => by
    cases hh with
    | head => exact ⟨h1, h2, h3⟩
    | tail _ q => exact r.has q

def It (C : PC) (k : Nat) (env : Env) (X : List Addr) (l : List (Str × D)) (e : PySem.Expr) (ds : List D) : Prop :=
  ∀ (A : Around) (s : Shared) (Q : Value → Shared → Prop), Inp C k env X l A s →
    (∀ I s₁ s₂ fp wr n P St, Kp s s₁ → Kp s₁ s₂ → Walks C.prog C.w A I fp wr n P St → St 0 s₂.heap → (∀ b ∈ wr, s₁.heap.get? b = none) → (∀ b ∈ fp, b < s₂.heap.objs.size) → n = ds.length →
      (∀ i v, P i v → ∃ d, ds[i]? = some d ∧ Rep X s₁.heap d v) → Q (.ref I) s₂) →
    wpAny (model C.prog C.w) A (eval e env) (fun xv s₁ => wpAny (model C.prog C.w) A (pyIter xv) Q Never s₁) Never s

theorem It.of_list {C : PC} {k : Nat} {env : Env} {X : List Addr} {l : List (Str × D)} {e : PySem.Expr} {ds : List D} (h : Ev C k env X l e (.list ds)) : It C k env X l e ds := fun A s Q ip q =>
  h A s _ ip fun v s1 k1 r => by
    simp only [Rep] at r
    obtain ⟨a, vs, rfl, hx, hl, ra⟩ := r
    refine wpAny_pyIter_list hl ?_
    obtain ⟨o, ho, _⟩ := id hl
    have halt : a < s1.heap.objs.size := Heap.lt_size ho
    refine q _ s1 _ [s1.heap.objs.size, a] [s1.heap.objs.size] vs.toArray.size _ _ k1 (Kp.push _ _) (Walks.list ip.good.1 s1.heap.objs.size a (Nat.ne_of_lt halt) vs.toArray) ⟨⟨_, Heap.get?_push_size _ rfl, rfl, rfl⟩, hl.push _⟩ ?_ ?_ ?_ ?_
    · intro b hb
      rcases List.mem_cons.mp hb with rfl | hb
      · cases e : s1.heap.get? s1.heap.objs.size with
        | none => rfl
        | some o => exact absurd (Heap.lt_size e) (Nat.lt_irrefl _)
      · cases hb
    · intro b hb
      show b < (s1.heap.push _).objs.size
      rw [Heap.size_push]
      rcases List.mem_cons.mp hb with rfl | hb
      · exact Nat.lt_succ_self _
      · rcases List.mem_cons.mp hb with rfl | hb
        · exact Nat.lt_succ_of_lt halt
        · cases hb
    · rw [List.size_toArray]; exact ra.length
    · intro i v hv
      have hv' : vs[i]? = some v := by simpa using hv
      have hlt : i < ds.length := by
        rw [← ra.length]
        rcases Nat.lt_or_ge i vs.length with h | h
        · exact h
        · rw [List.getElem?_eq_none h] at hv'; cases hv'
      obtain ⟨w, hw, rw'⟩ := ra.get (List.getElem?_eq_getElem hlt)
      rw [hv'] at hw; cases hw
      exact ⟨_, List.getElem?_eq_getElem hlt, rw'⟩

def rng (a c : Int) (n : Nat) : List Int := (List.range n).map fun (i : Nat) => a + (i : Int) * c
theorem rng_len (a c : Int) (n : Nat) : (rng a c n).length = n := by simp [rng]

def ItR (C : PC) (k : Nat) (env : Env) (X : List Addr) (l : List (Str × D)) (e : PySem.Expr) (a c : Int) (n : Nat) : Prop :=
  ∀ (A : Around) (s : Shared) (Q : Value → Shared → Prop), Inp C k env X l A s →
    (∀ I s₁ s₂, Kp s s₁ → Kp s₁ s₂ → s₁.heap.get? I = none → IsRangeIter s₂.heap I a n c → Q (.ref I) s₂) →
    wpAny (model C.prog C.w) A (eval e env) (fun xv s₁ => wpAny (model C.prog C.w) A (pyIter xv) Q Never s₁) Never s

theorem none_size (h : Heap) : h.get? h.objs.size = none := by
  cases e : h.get? h.objs.size with
  | none => rfl
  | some o => exact absurd (Heap.lt_size e) (Nat.lt_irrefl _)

theorem itr_range {C : PC} {A : Around} {s s₁ : Shared} {r : Addr} {a b c : Int} {t u v : Tok} {n : Nat} {Q : Value → Shared → Prop} (ks : Kp s s₁) (hr : IsRange s₁.heap r a b c t u v) (hs : Builtin.Range.small a b c = true)
    (hn : Builtin.Range.rangeSize a b c = n)
    (q : ∀ I s₁ s₂, Kp s s₁ → Kp s₁ s₂ → s₁.heap.get? I = none → IsRangeIter s₂.heap I a n c → Q (.ref I) s₂) : wpAny (model C.prog C.w) A (pyIter (.ref r)) Q Never s₁ := by
  refine wpAny_pyIter_range hr hs ?_
  refine q _ s₁ _ ks (Kp.push _ _) (none_size _) ?_
  have e : IsRangeIter (s₁.heap.push { cls := .type "range_iterator", data := .fields #[rawInt a, rawInt (Builtin.Range.rangeSize a b c), rawInt c] }) s₁.heap.objs.size a (Builtin.Range.rangeSize a b c) c := Heap.get?_push_size _ rfl
  rw [hn] at e
  rw [hn]
  exact e

theorem It.of_range {C : PC} {k : Nat} {env : Env} {X : List Addr} {l : List (Str × D)} {e : PySem.Expr} {a c : Int} {n : Nat} (h : ItR C k env X l e a c n) : It C k env X l e (nums (rng a c n)) := fun A s Q ip q => by
  refine h A s Q ip fun I s₁ s₂ k1 k2 hI hit => ?_
  have W := Walks.range (prog := C.prog) (w := C.w) (A := A) ip.good.1 I a c n
  have W' : Walks C.prog C.w A I [I] [I] n (fun i v => i < n ∧ ∃ t, v = .int (a + i * c) t) (fun i h => IsRangeIter h I (a + (i : Nat) * c) ((n : Int) - (i : Nat)) c) :=
    { sub := W.sub, frame := W.frame, done := W.done, self := W.self,
      item := fun i s Q E hi st hQ => W.item i s Q E hi st fun v h' tk hP => hQ v h' tk ⟨hi, hP⟩ }
  refine q _ s₁ s₂ _ _ n _ _ k1 k2 W' (by simpa using hit) ?_ ?_ ?_ ?_
  · intro b hb
    rcases List.mem_cons.mp hb with rfl | hb
    · exact hI
    · cases hb
  · intro b hb
    rcases List.mem_cons.mp hb with rfl | hb
    · exact Heap.lt_size hit
    · cases hb
  · simp [nums, rng_len]
  · rintro i v ⟨hi, w, rfl⟩
    refine ⟨.int (a + i * c), by simp [nums, rng, hi], ?_⟩
    simp only [Rep]; exact ⟨w, rfl⟩

section
variable {C : PC} {k : Nat} {env : Env} {X : List Addr} {l : List (Str × D)}
theorem ItR.range1 {x : Str} {p pos : Pos} {e : PySem.Expr} {n : Nat} (hb : Blt C x (.type "range")) (hk : env.kindOf x = some .globalImplicit) (he : Ev C k env X l e (.int n)) (hn : n ≤ 1000) (hd : (x == ("__debug__" : Str)) = false)
    (hst : starEach [e] env = (false, eval e env) :: starEach [] env) : ItR C k env X l (.Call (.Name x p) [e] [] pos) 0 1 n := fun A s Q ip q =>
  Call_ (Calls.Name_function_global ip.eok.kind hk (Calls.loadGlobal_builtin (mg := C.mg) (mb := C.mb) (by rw [ip.eok.glob]; exact C.hg.keeps ip.base) hb.miss (by rw [ip.eok.blt]; exact C.hb.keeps ip.base) hb.has
    (PyProof.Rows.callWith_type1 (EvAll.cons he EvAll.nil hst A s pos _ ip fun vs s1 k1 r1 => by
      simp only [RepAll, Rep] at r1
      obtain ⟨v, w, rfl, ⟨t, rfl⟩, rfl⟩ := r1
      refine call_range_1 ?_
      refine itr_range (k1.trans ⟨_, _, rfl, fun _ _ e => Heap.get?_push_of_some _ e⟩) (IsRange.new ..) (small_one (by omega) (by omega) (by omega) (by omega)) (by rw [rangeSize_one]; split <;> omega) q) hst rfl)) hd)
theorem ItR.range3 {x : Str} {p pos : Pos} {e1 e2 e3 : PySem.Expr} {a b c : Int} {n : Nat} (hb : Blt C x (.type "range")) (hk : env.kindOf x = some .globalImplicit) (h1 : Ev C k env X l e1 (.int a)) (h2 : Ev C k env X l e2 (.int b)) (h3 : Ev C k env X l e3 (.int c))
    (hc : c ≠ 0) (hc' : c.natAbs < 1000) (hs : Builtin.Range.small a b c = true) (hn : Builtin.Range.rangeSize a b c = n) (hd : (x == ("__debug__" : Str)) = false)
    (ht1 : starEach [e1, e2, e3] env = (false, eval e1 env) :: starEach [e2, e3] env) (ht2 : starEach [e2, e3] env = (false, eval e2 env) :: starEach [e3] env) (ht3 : starEach [e3] env = (false, eval e3 env) :: starEach [] env)
    (hp : (backTo pos (starEach [e2, e3] env)).any (·.1) = false) :
    ItR C k env X l (.Call (.Name x p) [e1, e2, e3] [] pos) a c n := fun A s Q ip q =>
  Call_ (Calls.Name_function_global ip.eok.kind hk (Calls.loadGlobal_builtin (mg := C.mg) (mb := C.mb) (by rw [ip.eok.glob]; exact C.hg.keeps ip.base) hb.miss (by rw [ip.eok.blt]; exact C.hb.keeps ip.base) hb.has
    (PyProof.Rows.callWith_type1 (EvAll.cons h1 (EvAll.cons h2 (EvAll.cons h3 EvAll.nil ht3) ht2) ht1 A s pos _ ip fun vs s1 k1 r1 => by
      simp only [RepAll, Rep] at r1
      obtain ⟨v, w, rfl, ⟨t, rfl⟩, v2, w2, rfl, ⟨t2, rfl⟩, v3, w3, rfl, ⟨t3, rfl⟩, rfl⟩ := r1
      refine call_range_3 hc ?_ (Or.inl (PyProof.noPylong_small (by omega)))
      refine itr_range (k1.trans (Kp.push _ _)) (IsRange.new ..) hs hn q) ht1 hp)) hd)
end
end Mine
end
section
open PySem PyProof.Rows
set_option linter.unusedVariables false
namespace Mine

def Sc : D → Bool
  | .list _ => false
  | .tup _ => false
  | _ => true
theorem sc_rep {X Y : List Addr} {h h' : Heap} {d : D} {v : Value} (hs : Sc d = true) (r : Rep X h d v) : Rep Y h' d v := by
  cases d <;> simp [Sc] at hs <;> simpa only [Rep] using r
theorem sc_repAll {X Y : List Addr} {h h' : Heap} : ∀ {ds : List D} {vs : List Value}, (∀ d ∈ ds, Sc d = true) → RepAll X h ds vs → RepAll Y h' ds vs
  | [], _, _, r => by simpa only [RepAll] using r
  | d :: ds, _, hs, r => by
    simp only [RepAll] at r ⊢
    obtain ⟨v, q, e, r1, r2⟩ := r
    exact ⟨v, q, e, sc_rep (hs d List.mem_cons_self) r1, sc_repAll (fun d hd => hs d (List.mem_cons_of_mem _ hd)) r2⟩

/-- the tests of a comprehension -/
def Tests (C : PC) (k : Nat) (env : Env) (X : List Addr) (l : List (Str × D)) (ifs : List PySem.Expr) (b : Bool) : Prop :=
  match ifs with
  | [] => b = true
  | [c] => IsT C k env X l c b
  | _ => False
theorem Tests.run {C : PC} {k : Nat} {env : Env} {X : List Addr} {l : List (Str × D)} {ifs : List PySem.Expr} {b : Bool} (h : Tests C k env X l ifs b) {A : Around} {s : Shared} {Q : Bool → Shared → Prop} (ip : Inp C k env X l A s)
    (q : ∀ s', Kp s s' → Q b s') :
    wpAny (model C.prog C.w) A (forIn ifs true fun c r => if r = true then do let ok ← isTrue c env (eval c env); pure (ForInStep.yield ok) else pure (ForInStep.yield r)) Q Never s := by
  match ifs, h with
  | [], h => obtain rfl : b = true := h; exact wpAny_tests_nil (q s (Kp.rfl s))
  | [c], h => exact wpAny_tests_one ((show IsT C k env X l c b from h) A s Q ip q)

theorem take_succ_filter_map {α β : Type} (p : α → Bool) (f : α → β) (l : List α) (i : Nat) (v : α) (h : l[i]? = some v) :
    ((l.take (i + 1)).filter p).map f = ((l.take i).filter p).map f ++ (if p v then [f v] else []) := by
  rw [List.take_add_one, h]
  simp only [Option.toList_some, List.filter_append, List.map_append]
  congr 1
  cases hp : p v <;> simp [hp]

section
variable {C : PC} {k : Nat} {env : Env} {X : List Addr} {l : List (Str × D)}

theorem comp_core {sc scope : Scope} {elt iter : PySem.Expr} {x : Str} {px pos : Pos} {ifs : List PySem.Expr} {ds : List D} {lc : List (Str × D)} {p : D → Bool} {f : D → D}
    (fe : FEnv env sc) (hit : It C k env X l iter ds) (hcell : ∀ y ∈ scope.names, y.2 ≠ .cell) (hkind : scope.kind = .function) (hx : scope.names.lookup x = some .local)
    (hcl : ∀ y ∈ scope.names, y.2 = .free → sc.names.lookup y.1 = some .cell) (hcap : Caps l scope sc lc) (hz : ds.length ≤ 1000)
    (hsc : ∀ d ∈ ds, p d = true → Sc (f d) = true)
    (body : ∀ env' d, d ∈ ds → CEnv env' scope env → Tests C k env' X ((x, d) :: lc) ifs (p d) ∧ (p d = true → Ev C k env' X ((x, d) :: lc) elt (f d)))
    {A : Around} {s : Shared} (ip : Inp C k env X l A s) {RR : Value → Addr → Result → Shared → Prop}
    (hRR : ∀ Dd Cc h' tk m' (ys : List Value), s.heap.get? Dd = none → s.heap.get? Cc = none → Dd ≠ Cc → h'.Ns Cc m' → h'.IsList Dd ys.toArray → (∀ Y H, RepAll Y H ((ds.filter p).map f) ys) → Sub s.heap h' →
      RR (.ref Dd) Cc (.ok .next) { s with heap := h', toks := tk }) :
    wpAny (model C.prog C.w) A (eval iter env) (fun xv s₁ => wpAny (model C.prog C.w) A (pyIter xv) (fun it s₂ => wpAny (model C.prog C.w) A (newList []) (fun acc s₃ =>
      wpAny (model C.prog C.w) A (newFunctionEnv scope env.globals (closeOf env scope.names []) [] env.qual none .none (some env)) (fun cenv s₄ =>
        codeAny (model C.prog C.w) A (.compStart (.ListComp elt [⟨.Name x px, iter, ifs, 0⟩] scope pos) 0 it acc { cenv with scope := relabel scope env }) (RR acc cenv.locals) s₄) Never s₃) Never s₂) Never s₁) Never s := by
  refine hit A s _ ip fun I s₁ s₂ fp wr n P St k1 k2 W hst hwr hfp hn hP => ?_
  refine wpAny_newObj_type (wpAny_newFunctionEnv hcell (by intro y hy; simp at hy) (fun h₁ hns₁ hsb₁ => ?_) hkind)
  dsimp only at hns₁ hsb₁ ⊢
  generalize hH2 : s₂.heap.push { cls := .type "list", dict := none, data := .seq ([] : List Value).toArray } = H2 at hns₁ hsb₁ ⊢
  have hC : H2.objs.size = s₂.heap.objs.size + 1 := by rw [← hH2, Heap.size_push]
  have hDC : s₂.heap.objs.size ≠ H2.objs.size := by rw [hC]; exact Nat.ne_of_lt (Nat.lt_succ_self _)
  have below : ∀ b, b < s₂.heap.objs.size → b ≠ H2.objs.size ∧ b ≠ s₂.heap.objs.size := fun b hb => ⟨by rw [hC]; exact Nat.ne_of_lt (Nat.lt_succ_of_lt hb), Nat.ne_of_lt hb⟩
  have hDf : s₂.heap.objs.size ∉ fp := fun hm => Nat.lt_irrefl _ (hfp _ hm)
  have hCf : H2.objs.size ∉ fp := fun hm => by have := hfp _ hm; rw [hC] at this; exact Nat.lt_irrefl _ (Nat.lt_of_succ_lt this)
  have hCw : H2.objs.size ∉ wr := fun h => hCf (W.sub _ h)
  have hDw : s₂.heap.objs.size ∉ wr := fun h => hDf (W.sub _ h)
  have old : ∀ b o, s₂.heap.get? b = some o → h₁.get? b = some o := fun b o e => hsb₁.extBut b o (below b (Heap.lt_size e)).1 (Heap.get?_push_of_some _ (hH2 ▸ Heap.get?_push_of_some _ e))
  have hacc : h₁.PlainList s₂.heap.objs.size #[] := ⟨_, hsb₁.extBut _ _ hDC (Heap.get?_push_of_some _ (hH2 ▸ Heap.get?_push_size _ rfl))⟩
  have hst₁ : St 0 h₁ := W.frame _ _ _ hst fun b _ o e => old b o e
  have none_of : ∀ a, s₂.heap.objs.size ≤ a → s.heap.get? a = none := fun a ha => by
    cases e : s.heap.get? a with
    | none => rfl
    | some o' => exact absurd (Heap.lt_size ((k1.trans k2).sub _ _ e)) (Nat.not_lt.mpr ha)
  obtain ⟨e12, t12, hs2, kk2⟩ := (k1.trans k2)
  -- the environment of the block
  have hcl' : ∀ y c, env.cells.lookup y = some c → scope.names.lookup y = some .free → (closeOf env scope.names []).lookup y = some c := fun y c h1 h2 => closeOf_lookup h1 _ _ (.inl h2) (.inl rfl)
  have hss : Sub s.heap s₂.heap := by rw [hs2]; exact kk2
  generalize hce : ({ (newEnv scope H2.objs.size env.globals (closeOf env scope.names []) env.qual none .none (some env) builtinsNs) with scope := relabel scope env } : Env) = cenv
  have hcl2 : cenv.locals = H2.objs.size := by rw [← hce]; rfl
  have hcs : cenv.scope = relabel scope env := by rw [← hce]
  have hcc : cenv.cells = closeOf env scope.names [] := by rw [← hce]; rfl
  have hcg : cenv.globals = env.globals := by rw [← hce]; rfl
  have hcb : cenv.builtins = env.builtins := by rw [← hce]; rfl
  have eok : EnvOk cenv := ⟨by rw [hcs]; exact hkind, by rw [hcg]; exact ip.eok.glob, by rw [hcb]; exact ip.eok.blt⟩
  have ce : CEnv cenv scope env := ⟨hcs⟩
  have hxl : cenv.kindOf x = some .local := gk_comp ce hx (by decide)
  have hp : (cenv.scope.kind == .class || (cenv.scope.kind == .module && cenv.locals != cenv.globals)) = false := by rw [hcs]; simp [relabel, hkind]
  have binds : ∀ (h : Heap) (m : Str → Option Value) (d : D) (v : Value), Sub s.heap h → h.Ns cenv.locals m → m x = some v → Rep X h d v → Binds cenv X h ((x, d) :: lc) := fun h m d v hsub hn hm hr y e hy => by
    cases hy with
    | head => exact ⟨v, hr, .inl ⟨hxl, m, hn, hm⟩⟩
    | tail _ hy =>
      obtain ⟨q1, q2, q3⟩ := hcap.has hy
      obtain ⟨w, rw', hw⟩ := ip.binds y e q1
      have hkc : env.kindOf y = some .cell := gk_fun fe q3
      rcases hw with ⟨hk, _⟩ | ⟨hk, c, hc, hv⟩
      · rw [hkc] at hk; cases hk
      · refine ⟨w, rw'.up hsub, .inr ⟨?_, c, ?_, hv.keeps hsub⟩⟩
        · unfold Env.kindOf; rw [hcs]; exact lookup_relabel_free ip.eok.kind hkc q2
        · rw [hcc]; exact hcl' y c hc q2
  have loop : ∀ s₃ : Shared, s₃ = { s₂ with heap := h₁, toks := s₂.toks + ([] : List (Str × Value)).length } →
      codeAny (model C.prog C.w) A (.compLoop (.ListComp elt [⟨.Name x px, iter, ifs, 0⟩] scope pos) 0 (.ref I) (.ref s₂.heap.objs.size) cenv) (RR (.ref s₂.heap.objs.size) H2.objs.size) s₃ := by
    rintro s₃ rfl
    refine codeAny_compLoop_tests
      (fun j s' => ∃ (h' : Heap) (tk : Nat) (m' : Str → Option Value) (ys : List Value) (i : Nat), s' = { s₂ with heap := h', toks := tk } ∧ St i h' ∧ h'.PlainList s₂.heap.objs.size ys.toArray ∧ h'.Ns H2.objs.size m' ∧
        (∀ Y H, RepAll Y H (((ds.take i).filter p).map f) ys) ∧ i ≤ n ∧ j = n + 1 - i ∧ Sub s₁.heap h') ?_ (n + 1) ?_
    · rintro j s' ⟨H, tk, m', ys, i, rfl, hst', hacc', hn', hys, hi, rfl, hk⟩
      by_cases hlt : i < n
      · refine W.item i _ _ _ hlt hst' fun v h₂ tk₂ hPv hst₂ hk₂ => ?_
        obtain ⟨d, hd, hrep⟩ := hP i v hPv
        have hdm : d ∈ ds := List.mem_of_getElem? hd
        refine wpAny_assign_Name (wpAny_storeName_local hxl (by rw [hcl2]; exact hn'.at' fun o e => hk₂ _ o hCw e) (fun h₃ hn₃ hs₃ => ?_) hp)
        rw [hcl2] at hn₃ hs₃
        have s1_3 : Sub s₁.heap h₃ := fun b o e => hs₃.extBut b o (below b (Heap.lt_size (k2.sub _ _ e))).1 (hk₂ b o (fun hb => by rw [hwr b hb] at e; cases e) (hk b o e))
        have ss3 : Sub s.heap h₃ := k1.sub.trans s1_3
        have hst₃ : St (i + 1) h₃ := W.frame _ _ _ hst₂ fun b hb o e => hs₃.extBut b o (fun h => hCf (h ▸ hb)) e
        have hacc₃ : h₃.PlainList s₂.heap.objs.size ys.toArray := hacc'.at fun o e => hs₃.extBut _ o hDC (hk₂ _ o hDw e)
        obtain ⟨bt, be⟩ := body cenv d hdm ce
        have ip₃ : ∀ (h : Heap) (t : Nat), Sub h₃ h → Inp C k cenv X ((x, d) :: lc) A { s₂ with heap := h, toks := t } := fun h t hh =>
          ⟨ip.good, eok, (ip.base.trans ss3).trans hh, fun a ha => let ⟨o, e⟩ := ip.alive a ha; ⟨o, hh _ _ (ss3 _ _ e)⟩,
            binds h _ d v (ss3.trans hh) (by rw [hcl2]; exact hn₃.keeps hh) (by simp) (hrep.up (s1_3.trans hh))⟩
        refine wpAny_mono (bt.run (ip₃ h₃ _ (Sub.refl _)) (Q := fun ok s₄ => ok = p d ∧ Kp { s₂ with heap := h₃, toks := tk₂ + 1 } s₄) fun s' k' => ⟨rfl, k'⟩) (fun ok s₄ h₄ => ?_) (fun _ _ e => e.elim)
        obtain ⟨rfl, h₄, tk₄, rfl, hk₄⟩ := h₄
        have hst₄ : St (i + 1) h₄ := W.frame _ _ _ hst₃ fun b _ o e => hk₄ b o e
        have hacc₄ : h₄.PlainList s₂.heap.objs.size ys.toArray := hacc₃.at fun o e => hk₄ _ o e
        cases hpd : p d with
        | false =>
          simp only [Bool.false_eq_true, if_false]
          refine ⟨n + 1 - (i + 1), by omega, h₄, tk₄, _, ys, i + 1, rfl, hst₄, hacc₄, hn₃.keeps hk₄, ?_, hlt, rfl, s1_3.trans hk₄⟩
          intro Y H
          rw [take_succ_filter_map p f ds i d hd, hpd]
          simpa using hys Y H
        | true =>
          simp only [if_true]
          refine wpAny_mono (be hpd A { s₂ with heap := h₄, toks := tk₄ } (fun v s₅ => Kp { s₂ with heap := h₄, toks := tk₄ } s₅ ∧ Rep X s₅.heap (f d) v) (ip₃ h₄ _ hk₄) fun v s' k' r => ⟨k', r⟩) (fun y s₅ h₅ => ?_) (fun _ _ e => e.elim)
          obtain ⟨⟨h₅, tk₅, rfl, hk₅⟩, hry⟩ := h₅
          have hlen : ys.length ≤ 1000 := by
            have := (hys X H).length
            rw [this, List.length_map]
            have e2 : ((ds.take i).filter p).length ≤ (ds.take i).length := List.length_filter_le _ _
            have e3 : (ds.take i).length ≤ ds.length := by rw [List.length_take]; omega
            omega
          refine wpAny_list_append_plain (hsz := by rw [List.size_toArray, show sizeLine = 16777216 from rfl]; omega) (hacc₄.at fun o e => hk₅ _ o e) fun h₆ hl₆ hs₆ => ?_
          refine ⟨n + 1 - (i + 1), by omega, h₆, tk₅, _, ys ++ [y], i + 1, rfl, ?_, by simpa using hl₆, (hn₃.keeps fun b o e => hk₅ b o (hk₄ b o e)).sameBut hs₆ (Ne.symm hDC), ?_, hlt, rfl, ?_⟩
          · exact W.frame _ _ h₆ hst₄ fun b hb o e => hs₆.extBut b o (fun h => hDf (h ▸ hb)) (hk₅ b o e)
          · intro Y H
            rw [take_succ_filter_map p f ds i d hd, hpd]
            simp only [if_true]
            exact (hys Y H).append (RepAll.one (sc_rep (hsc d hdm hpd) hry))
          · exact fun b o e => hs₆.extBut b o (below b (Heap.lt_size (k2.sub _ _ e))).2 (hk₅ b o (hk₄ b o (s1_3 b o e)))
      · have hin : i = n := by omega
        subst hin
        refine W.done _ _ _ hst' fun h₂ tk₂ hk₂ => ?_
        have := hRR s₂.heap.objs.size H2.objs.size h₂ tk₂ m' ys (none_of _ (Nat.le_refl _)) (none_of _ (by rw [hC]; exact Nat.le_succ _)) hDC (hn'.at' fun o e => hk₂ _ o hCw e) (hacc'.at fun o e => hk₂ _ o hDw e).isList
          (by rw [hn, List.take_length] at hys; exact hys) (fun b o e => hk₂ b o (fun hb => by have := hwr b hb; rw [k1.sub _ _ e] at this; cases this) (hk b o (k1.sub _ _ e)))
        have e : ({ s with heap := h₂, toks := tk₂ } : Shared) = { s₂ with heap := h₂, toks := tk₂ } := by rw [hs2]
        rw [e] at this
        exact this
    · exact ⟨h₁, _, _, [], 0, rfl, hst₁, hacc, hns₁, fun Y H => by simpa using RepAll.nil, Nat.zero_le _, rfl, k2.sub.trans old⟩
  subst hce
  exact codeAny_compStart_list (loop _ rfl) (W.self 0 _ _ _ hst₁ (loop _ rfl))

theorem Ev.comp {sc scope : Scope} {elt iter : PySem.Expr} {x : Str} {px pos : Pos} {ifs : List PySem.Expr} {ds : List D} {lc : List (Str × D)} (p : D → Bool) (f : D → D)
    (fe : FEnv env sc) (hit : It C k env X l iter ds) (hcell : ∀ y ∈ scope.names, y.2 ≠ .cell) (hkind : scope.kind = .function) (hx : scope.names.lookup x = some .local)
    (hnames : ∀ y ∈ scope.names, y.2 = .local → scope.names.lookup y.1 = some .local)
    (hcl : ∀ y ∈ scope.names, y.2 = .free → sc.names.lookup y.1 = some .cell) (hcap : Caps l scope sc lc) (hz : ds.length ≤ 1000)
    (hsc : ∀ d ∈ ds, p d = true → Sc (f d) = true)
    (body : ∀ env' d, d ∈ ds → CEnv env' scope env → Tests C k env' X ((x, d) :: lc) ifs (p d) ∧ (p d = true → Ev C k env' X ((x, d) :: lc) elt (f d)))
    (hs : ∀ x, foldedSetIterable iter env x = pure x) :
    Ev C k env X l (.ListComp elt [⟨.Name x px, iter, ifs, 0⟩] scope pos) (.list ((ds.filter p).map f)) := fun A s Q ip q => by
  rw [eval_ListComp]
  have hclos : closureFor scope env = pure (closeOf env scope.names []) := closureFor_eq fun y hy hf => by
    have := hcl y hy hf
    rw [fe.cells]
    exact PySem.W.cellsFrom_some _ _ _ (.inl this)
  refine wpAny_comprehension_free (use := none) rfl hs hclos hkind hnames ?_
  refine comp_core fe hit hcell hkind hx hcl hcap hz hsc body ip (RR := fun acc Cc => compPost (model C.prog C.w) A Never none Q acc Cc) ?_
  intro Dd Cc h' tk m' ys hD hC hDC hn hl hr hsub
  refine ⟨m', hn, fun h'' hs'' => ?_⟩
  have hsub' : Sub s.heap h'' := fun b o e => hs''.extBut b o (by rintro rfl; rw [hC] at e; cases e) (hsub b o e)
  refine q _ _ ⟨h'', tk, rfl, hsub'⟩ ?_
  simp only [Rep]
  refine ⟨Dd, ys, rfl, fun hX => ?_, hl.extBut hs''.extBut hDC, hr X h''⟩
  obtain ⟨o, e⟩ := ip.alive _ hX
  rw [hD] at e; cases e
end
end Mine
end
section
open PySem PyProof.Rows
set_option linter.unusedVariables false
namespace Mine

/-- lists that the frame fills -/
def Owns (env : Env) (X : List Addr) (h : Heap) (lo : Nat) : List (Str × List D) → List Addr → Prop
  | [], as => as = []
  | (x, ds) :: r, as => ∃ a as', as = a :: as' ∧ lo ≤ a ∧ a ∉ as' ∧ (∀ p ∈ r, p.1 ≠ x) ∧ env.kindOf x = some .local ∧ (∃ m, h.Ns env.locals m ∧ m x = some (.ref a)) ∧ (∃ vs : List Value, h.PlainList a vs.toArray ∧ RepAll X h ds vs) ∧ Owns env X h lo r as'

structure FRa (C : PC) (s₀ : Shared) (env : Env) (X₀ as : List Addr) (vals : List (Str × D)) (own : List (Str × List D)) (s : Shared) : Prop where
  call : ∃ m cm, InCallC s₀ env.locals m env.cells cm s
  binds : Binds env (as ++ X₀) s.heap vals
  owns : Owns env (as ++ X₀) s.heap s₀.heap.objs.size own as
  base : Sub C.base s₀.heap
  alive : ∀ a ∈ X₀, ∃ o, s₀.heap.get? a = some o

def FR (C : PC) (s₀ : Shared) (env : Env) (X₀ : List Addr) (vals : List (Str × D)) (own : List (Str × List D)) (s : Shared) : Prop := ∃ as, FRa C s₀ env X₀ as vals own s

def KeepF (h h' : Heap) : Prop := ∀ b o fs, h.get? b = some o → o.data = .fields fs → h'.get? b = some o
theorem KeepF.refl (h : Heap) : KeepF h h := fun _ _ _ e _ => e
theorem KeepF.trans {a b c : Heap} (x : KeepF a b) (y : KeepF b c) : KeepF a c := fun d o fs e q => y d o fs (x d o fs e q) q
theorem Sub.keepF {a b : Heap} (x : Sub a b) : KeepF a b := fun d o _ e _ => x d o e

theorem ns_unique {h : Heap} {a : Addr} {m m' : Str → Option Value} (x : h.Ns a m) (y : h.Ns a m') : m = m' := by
  obtain ⟨o, es, ep, h1, h2, _, h3⟩ := x
  obtain ⟨o', es', ep', h1', h2', _, h3'⟩ := y
  rw [h1] at h1'; cases h1'
  rw [h2] at h2'; cases h2'
  funext n
  rw [← h3 n, ← h3' n]

theorem Owns.alive {env : Env} {X : List Addr} {h : Heap} {lo : Nat} : ∀ {own : List (Str × List D)} {as : List Addr}, Owns env X h lo own as → ∀ a ∈ as, (∃ o, h.get? a = some o) ∧ lo ≤ a
  | [], _, q, a, ha => by simp only [Owns] at q; subst q; cases ha
  | (x, ds) :: r, as, q, a, ha => by
    simp only [Owns] at q
    obtain ⟨b, as', rfl, hlo, _, _, _, _, ⟨vs, ⟨n, e⟩, _⟩, hr⟩ := q
    rcases List.mem_cons.mp ha with rfl | ha
    · exact ⟨⟨_, e⟩, hlo⟩
    · exact hr.alive a ha
/-- the heap goes on: the names and the filled lists are the same -/
theorem Owns.move {env : Env} {X Y : List Addr} {h h' : Heap} {lo : Nat} (hN : ∀ m x v, h.Ns env.locals m → m x = some v → ∃ m', h'.Ns env.locals m' ∧ m' x = some v) (hP : ∀ a vs, h.PlainList a vs → h'.PlainList a vs)
    (hR : ∀ ds vs, RepAll X h ds vs → RepAll Y h' ds vs) : ∀ {own : List (Str × List D)} {as : List Addr}, Owns env X h lo own as → Owns env Y h' lo own as
  | [], _, q => by simpa only [Owns] using q
  | (x, ds) :: r, as, q => by
    simp only [Owns] at q ⊢
    obtain ⟨b, as', rfl, hlo, hb, hne, hk, ⟨m, hm, hx⟩, ⟨vs, hp, hr⟩, hh⟩ := q
    exact ⟨b, as', rfl, hlo, hb, hne, hk, hN m x _ hm hx, ⟨vs, hP _ _ hp, hR _ _ hr⟩, hh.move hN hP hR⟩

section
variable {C : PC} {s₀ : Shared} {env : Env} {X₀ as : List Addr} {vals : List (Str × D)} {own : List (Str × List D)} {s s' : Shared}

theorem InCallC.up {m cm : Str → Option Value} {L : Addr} {cs : List (Str × Addr)} (x : InCallC s₀ L m cs cm s) (k : Kp s s') : InCallC s₀ L m cs cm s' := by
  obtain ⟨h', tk, rfl, hk⟩ := k
  exact PySem.InCallC.kept x hk
theorem FRa.up (f : FRa C s₀ env X₀ as vals own s) (k : Kp s s') : FRa C s₀ env X₀ as vals own s' := by
  obtain ⟨⟨m, cm, hc⟩, hb, ho, base, al⟩ := f
  exact ⟨⟨m, cm, InCallC.up hc k⟩, hb.up k.sub, ho.move (fun m x v hn hx => ⟨m, hn.keeps k.sub, hx⟩) (fun a vs hp => hp.at fun o e => k.sub _ _ e) (fun ds vs r => r.up k.sub), base, al⟩
theorem FRa.sub (f : FRa C s₀ env X₀ as vals own s) : Sub s₀.heap s.heap := let ⟨_, _, hc⟩ := f.call; hc.toInCall.keep
theorem FRa.inp (f : FRa C s₀ env X₀ as vals own s) {A : Around} {k : Nat} (g : Good A k) (eok : EnvOk env) : Inp C k env (as ++ X₀) vals A s :=
  ⟨g, eok, f.base.trans f.sub, fun a ha => by
    rcases List.mem_append.mp ha with ha | ha
    · exact (f.owns.alive a ha).1
    · obtain ⟨o, e⟩ := f.alive a ha; exact ⟨o, f.sub _ _ e⟩, f.binds⟩

/-- a name that can be stored -/
def Sto (env : Env) (x : Str) : Prop := env.kindOf x = some .local ∨ (env.kindOf x = some .cell ∧ (env.cells.lookup x).isSome = true)

theorem seq_ne_dict {h : Heap} {a L : Addr} {o : Obj} {items n m} (e : h.get? a = some o) (hd : o.data = .seq items n) (hn : h.Ns L m) : a ≠ L := by
  rintro rfl
  obtain ⟨o', es, ep, h1, h2, _⟩ := hn
  rw [e] at h1; cases h1
  rw [hd] at h2; cases h2
theorem seq_ne_cell {h : Heap} {a c : Addr} {o : Obj} {items n v} (e : h.get? a = some o) (hd : o.data = .seq items n) (hn : h.IsCell c v) : a ≠ c := by
  rintro rfl
  obtain ⟨o', h1, h2⟩ := hn
  rw [e] at h1; cases h1
  rw [hd] at h2; cases h2

structure Stored (env : Env) (x : Str) (v : Value) (h h' : Heap) : Prop where
  keep : ∀ b o, b ≠ env.locals → (∀ v, o.data ≠ .cell v) → h.get? b = some o → h'.get? b = some o
  now : Holds env h' x v
  rest : ∀ y w, y ≠ x → Holds env h y w → Holds env h' y w
  keepF : KeepF h h'

theorem FRa.storeV {x : Str} {v : Value} {M : Model} {A : Around} {Q : Unit → Shared → Prop} (f : FRa C s₀ env X₀ as vals own s) (eok : EnvOk env) (hx : Sto env x)
    (q : ∀ s', (∃ m cm, InCallC s₀ env.locals m env.cells cm s') → Stored env x v s.heap s'.heap → Q () s') : wpAny M A (storeName env x v) Q Never s := by
  obtain ⟨⟨m, cm, hc⟩, hb, hw, base, al⟩ := f
  have hnL := hc.toInCall.ns
  rcases hx with hl | ⟨hl, hcs⟩
  · refine wpAny_storeName_local hl hnL (fun h' hn' hs' => ?_) (by rw [eok.kind]; rfl)
    refine q _ ⟨(fun y => if y = x then some v else m y), cm, ⟨⟨?_, hn', fun b o e => ?_, hc.toInCall.fresh⟩, fun k c hc' => ?_, hc.apart, hc.above⟩⟩ ⟨fun b o hb _ e => (hs'.2 b hb).trans e, .inl ⟨hl, _, hn', by simp⟩, ?_, ?_⟩
    · obtain ⟨h₁, tk, rfl⟩ := hc.toInCall.same
      exact ⟨h', _, rfl⟩
    · exact hs'.extBut b o (Nat.ne_of_lt (Nat.lt_of_lt_of_le (Heap.lt_size e) hc.toInCall.fresh)) (hc.toInCall.keep b o e)
    · exact (hc.cell k c hc').sameBut hs' (Nat.ne_of_gt (hc.above k c (mem_of_lookup hc')))
    · intro y w hne hw'
      rcases hw' with ⟨k1, m1, k2, k3⟩ | ⟨k1, c, k2, k3⟩
      · refine .inl ⟨k1, _, hn', ?_⟩
        rw [ns_unique k2 hnL] at k3
        simp only [if_neg hne]; exact k3
      · exact .inr ⟨k1, c, k2, k3.sameBut hs' (Nat.ne_of_gt (hc.above y c (mem_of_lookup k2)))⟩
    · intro b o fs e hd
      refine (hs'.2 b ?_).trans e
      rintro rfl
      obtain ⟨o', es, ep, h1, h2, _⟩ := hnL
      rw [e] at h1; cases h1
      rw [hd] at h2; cases h2
  · obtain ⟨c, hcl⟩ := Option.isSome_iff_exists.mp hcs
    have hcell := hc.cell x c hcl
    refine wpAny_storeName_cell eok.kind hl hcl hcell fun h' hc' hs' => ?_
    have hLc := hc.above x c (mem_of_lookup hcl)
    have hn' := hnL.sameBut hs' (Nat.ne_of_lt hLc)
    refine q _ ⟨m, (fun y => if y = x then some v else cm y), ⟨⟨?_, hn', fun b o e => ?_, hc.toInCall.fresh⟩, fun k c' hk' => ?_, hc.apart, hc.above⟩⟩ ⟨?_, .inr ⟨hl, c, hcl, hc'⟩, ?_, ?_⟩
    · obtain ⟨h₁, tk, rfl⟩ := hc.toInCall.same
      exact ⟨h', _, rfl⟩
    · exact hs'.extBut b o (Nat.ne_of_lt (Nat.lt_trans (Nat.lt_of_lt_of_le (Heap.lt_size e) hc.toInCall.fresh) hLc)) (hc.toInCall.keep b o e)
    · by_cases hkn : k = x
      · subst hkn
        rw [hcl] at hk'; cases hk'
        simpa using hc'
      · rw [if_neg hkn]
        exact (hc.cell k c' hk').sameBut hs' fun e => hkn (name_of_addr hc.apart (mem_of_lookup hk') (e ▸ mem_of_lookup hcl))
    · intro b o hb hd e
      refine (hs'.2 b ?_).trans e
      rintro rfl
      obtain ⟨o', h1, h2⟩ := hcell
      rw [e] at h1; cases h1
      exact hd _ h2
    · intro y w hne hw'
      rcases hw' with ⟨k1, m1, k2, k3⟩ | ⟨k1, c', k2, k3⟩
      · exact .inl ⟨k1, m1, k2.sameBut hs' (Nat.ne_of_lt hLc), k3⟩
      · exact .inr ⟨k1, c', k2, k3.sameBut hs' fun e' => hne (name_of_addr hc.apart (mem_of_lookup k2) (e' ▸ mem_of_lookup hcl))⟩
    · intro b o fs e hd
      refine (hs'.2 b ?_).trans e
      rintro rfl
      obtain ⟨o', h1, h2⟩ := hcell
      rw [e] at h1; cases h1
      rw [hd] at h2; cases h2

theorem Stored.subX {x : Str} {v : Value} {h h' : Heap} {X : List Addr} {m} (q : Stored env x v h h') (hn : h.Ns env.locals m) : SubX X h h' := fun b ob items n _ e hd =>
  q.keep b ob (seq_ne_dict e hd hn) (by rw [hd]; exact fun _ q => nomatch q) e
theorem Owns.stored {X Y : List Addr} {x : Str} {v : Value} {h h' : Heap} {lo : Nat} {m} (q : Stored env x v h h') (hn : h.Ns env.locals m) (hR : ∀ ds vs, RepAll X h ds vs → RepAll Y h' ds vs) :
    ∀ {own : List (Str × List D)} {bs : List Addr}, (∀ p ∈ own, p.1 ≠ x) → Owns env X h lo own bs → Owns env Y h' lo own bs
  | [], _, _, w => by simpa only [Owns] using w
  | (y, ds) :: r, bs, hne, w => by
    simp only [Owns] at w ⊢
    obtain ⟨b, bs', rfl, hlo, hb', hne', hk, ⟨m1, hm, hx'⟩, ⟨vs, ⟨n, hp⟩, hr⟩, hh⟩ := w
    refine ⟨b, bs', rfl, hlo, hb', hne', hk, ?_, ⟨vs, ⟨n, q.keep b _ (seq_ne_dict hp rfl hn) (by exact fun _ q => nomatch q) hp⟩, hR _ _ hr⟩, Owns.stored q hn hR (fun p hp => hne p (List.mem_cons_of_mem _ hp)) hh⟩
    rcases q.rest y (.ref b) (hne (y, ds) List.mem_cons_self) (.inl ⟨hk, m1, hm, hx'⟩) with ⟨_, m2, h2, h3⟩ | ⟨hk', _⟩
    · exact ⟨m2, h2, h3⟩
    · rw [hk] at hk'; cases hk'

theorem FRa.store {x : Str} {d : D} {v : Value} {M : Model} {A : Around} {Q : Unit → Shared → Prop} (f : FRa C s₀ env X₀ as vals own s) (eok : EnvOk env) (hx : Sto env x) (ho : ∀ p ∈ own, p.1 ≠ x) (r : Rep (as ++ X₀) s.heap d v)
    (q : ∀ s', FRa C s₀ env X₀ as ((x, d) :: vals) own s' → KeepF s.heap s'.heap → Stored env x v s.heap s'.heap → Q () s') : wpAny M A (storeName env x v) Q Never s := by
  refine f.storeV eok hx fun s' hc' st => ?_
  obtain ⟨m, cm, hc⟩ := f.call
  have hn := hc.toInCall.ns
  refine q s' ⟨hc', ?_, Owns.stored st hn (fun _ _ r => r.mono (fun _ q => q) (st.subX hn)) ho f.owns, f.base, f.alive⟩ st.keepF st
  intro y e hy
  cases hy with
  | head => exact ⟨v, r.mono (fun _ q => q) (st.subX hn), st.now⟩
  | tail hne hy =>
    obtain ⟨w, rw', hw'⟩ := f.binds y e hy
    exact ⟨w, rw'.mono (fun _ q => q) (st.subX hn), st.rest y w (Ne.symm hne) hw'⟩

/-- a table that is not the frame's is changed -/
theorem FRa.other {c : Addr} {mc : Str → Option Value} {h' : Heap} (f : FRa C s₀ env X₀ as vals own s) (hn : s.heap.Ns c mc) (hs : Heap.SameBut c s.heap h') (hL : c ≠ env.locals) (hc₀ : s₀.heap.get? c = none) :
    FRa C s₀ env X₀ as vals own { s with heap := h' } := by
  obtain ⟨⟨m, cm, hc⟩, hb, hw, base, al⟩ := f
  have sx : SubX (as ++ X₀) s.heap h' := fun b o items n _ e hd => (hs.2 b (seq_ne_dict e hd hn)).trans e
  have cell : ∀ d w, s.heap.IsCell d w → h'.IsCell d w := fun d w q => q.sameBut hs (by
    rintro rfl
    obtain ⟨o, h1, h2⟩ := q
    obtain ⟨o', es, ep, h3, h4, _⟩ := hn
    rw [h1] at h3; cases h3
    rw [h2] at h4; cases h4)
  refine ⟨⟨m, cm, ⟨⟨?_, hc.toInCall.ns.sameBut hs (Ne.symm hL), fun b o e => ?_, hc.toInCall.fresh⟩, fun k d hd => cell _ _ (hc.cell k d hd), hc.apart, hc.above⟩⟩, ?_, ?_, base, al⟩
  · obtain ⟨h₁, tk, rfl⟩ := hc.toInCall.same
    exact ⟨h', _, rfl⟩
  · exact (hs.2 b (by rintro rfl; rw [hc₀] at e; cases e)).trans (hc.toInCall.keep b o e)
  · intro y e hy
    obtain ⟨w, rw', hw'⟩ := hb y e hy
    refine ⟨w, rw'.mono (fun _ q => q) sx, ?_⟩
    rcases hw' with ⟨k1, m1, k2, k3⟩ | ⟨k1, d, k2, k3⟩
    · exact .inl ⟨k1, m1, k2.sameBut hs (Ne.symm hL), k3⟩
    · exact .inr ⟨k1, d, k2, cell _ _ k3⟩
  · exact hw.move (fun m1 y w h1 h2 => ⟨m1, h1.sameBut hs (Ne.symm hL), h2⟩) (fun a vs hp => by obtain ⟨n, e⟩ := hp; exact ⟨n, (hs.2 a (seq_ne_dict e rfl hn)).trans e⟩) (fun ds vs r => r.mono (fun _ q => q) sx)
/-- an iterator is moved on -/
theorem FRa.iter {c : Addr} {oc : Obj} {fs : Array Value} {h' : Heap} {tk : Nat} (f : FRa C s₀ env X₀ as vals own s) (ho : s.heap.get? c = some oc) (hd : oc.data = .fields fs) (hs : ∀ b o, b ≠ c → s.heap.get? b = some o → h'.get? b = some o) (hc₀ : s₀.heap.get? c = none) :
    FRa C s₀ env X₀ as vals own { s with heap := h', toks := tk } := by
  obtain ⟨⟨m, cm, hc⟩, hb, hw, base, al⟩ := f
  have ne : ∀ b o, s.heap.get? b = some o → (∀ fs, o.data ≠ .fields fs) → b ≠ c := fun b o e q => by
    rintro rfl
    rw [ho] at e; cases e
    exact q _ hd
  have sx : SubX (as ++ X₀) s.heap h' := fun b o items n _ e hd' => hs b o (ne b o e (by rw [hd']; exact fun _ q => nomatch q)) e
  have cell : ∀ d w, s.heap.IsCell d w → h'.IsCell d w := fun d w q => by
    obtain ⟨o, h1, h2⟩ := q
    exact ⟨o, hs d o (ne d o h1 (by rw [h2]; exact fun _ q => nomatch q)) h1, h2⟩
  have ns : ∀ d w, s.heap.Ns d w → h'.Ns d w := fun d w q => by
    obtain ⟨o, es, ep, h1, h2, h3⟩ := q
    exact ⟨o, es, ep, hs d o (ne d o h1 (by rw [h2]; exact fun _ q => nomatch q)) h1, h2, h3⟩
  refine ⟨⟨m, cm, ⟨⟨?_, ns _ _ hc.toInCall.ns, fun b o e => ?_, hc.toInCall.fresh⟩, fun k d hd => cell _ _ (hc.cell k d hd), hc.apart, hc.above⟩⟩, ?_, ?_, base, al⟩
  · obtain ⟨h₁, tk, rfl⟩ := hc.toInCall.same
    exact ⟨h', _, rfl⟩
  · exact hs b o (by rintro rfl; rw [hc₀] at e; cases e) (hc.toInCall.keep b o e)
  · intro y e hy
    obtain ⟨w, rw', hw'⟩ := hb y e hy
    refine ⟨w, rw'.mono (fun _ q => q) sx, ?_⟩
    rcases hw' with ⟨k1, m1, k2, k3⟩ | ⟨k1, d, k2, k3⟩
    · exact .inl ⟨k1, m1, ns _ _ k2, k3⟩
    · exact .inr ⟨k1, d, k2, cell _ _ k3⟩
  · exact hw.move (fun m1 y w h1 h2 => ⟨m1, ns _ _ h1, h2⟩) (fun a vs hp => by obtain ⟨n, e⟩ := hp; exact ⟨n, hs a _ (ne a _ e (by exact fun _ q => nomatch q)) e⟩) (fun ds vs r => r.mono (fun _ q => q) sx)

theorem Rep.more {X Y : List Addr} {h : Heap} (hY : ∀ a ∈ Y, a ∈ X ∨ h.get? a = none) {d : D} {v : Value} (r : Rep X h d v) : Rep Y h d v := by
  revert v
  refine D.rec (motive_1 := fun d => ∀ {v : Value}, Rep X h d v → Rep Y h d v) (motive_2 := fun ds => ∀ {vs : List Value}, RepAll X h ds vs → RepAll Y h ds vs) ?_ ?_ ?_ ?_ ?_ ?_ ?_ ?_ d
  · intro i v r; simpa only [Rep] using r
  · intro i v r; simpa only [Rep] using r
  · intro i v r; simpa only [Rep] using r
  · intro v r; simpa only [Rep] using r
  · intro ds ih v r
    simp only [Rep] at r ⊢
    obtain ⟨a, vs, e, hx, hl, ra⟩ := r
    refine ⟨a, vs, e, fun q => ?_, hl, ih ra⟩
    rcases hY a q with q | q
    · exact hx q
    · obtain ⟨o, e, _⟩ := hl; rw [e] at q; cases q
  · intro ds ih v r
    simp only [Rep] at r ⊢
    obtain ⟨a, vs, e, hx, hl, ra⟩ := r
    refine ⟨a, vs, e, fun q => ?_, hl, ih ra⟩
    rcases hY a q with q | q
    · exact hx q
    · obtain ⟨o, e, _⟩ := hl; rw [e] at q; cases q
  · intro vs r; simpa only [RepAll] using r
  · intro d ds ih1 ih2 vs r
    simp only [RepAll] at r ⊢
    obtain ⟨v, q, e, r1, r2⟩ := r
    exact ⟨v, q, e, ih1 r1, ih2 r2⟩
theorem RepAll.more {X Y : List Addr} {h : Heap} (hY : ∀ a ∈ Y, a ∈ X ∨ h.get? a = none) : ∀ {ds : List D} {vs : List Value}, RepAll X h ds vs → RepAll Y h ds vs
  | [], _, r => by simpa only [RepAll] using r
  | d :: ds, _, r => by
    simp only [RepAll] at r ⊢
    obtain ⟨v, q, e, r1, r2⟩ := r
    exact ⟨v, q, e, r1.more hY, RepAll.more hY r2⟩
end
end Mine
end
section
open PySem PyProof.Rows
set_option linter.unusedVariables false
namespace Mine

abbrev Vals := List (Str × D)
abbrev Own := List (Str × List D)

def Ex (C : PC) (k : Nat) (env : Env) (v : Vals) (o : Own) (st : Stmt) (v' : Vals) (o' : Own) : Prop :=
  ∀ (A : Around) (s₀ s : Shared) (X₀ : List Addr) (Q : Flow → Shared → Prop), Good A k → EnvOk env → FR C s₀ env X₀ v o s → (∀ s', FR C s₀ env X₀ v' o' s' → KeepF s.heap s'.heap → Q .next s') →
    wpAny (model C.prog C.w) A (exec st env) Q Never s
def ExR (C : PC) (k : Nat) (env : Env) (v : Vals) (o : Own) (st : Stmt) (d : D) : Prop :=
  ∀ (A : Around) (s₀ s : Shared) (X₀ : List Addr) (Q : Flow → Shared → Prop), Good A k → EnvOk env → FR C s₀ env X₀ v o s → (∀ w s', Kp s₀ s' → Rep X₀ s'.heap d w → Q (.ret w) s') →
    wpAny (model C.prog C.w) A (exec st env) Q Never s
def Exs (C : PC) (k : Nat) (env : Env) (v : Vals) (o : Own) (st : List Stmt) (v' : Vals) (o' : Own) : Prop :=
  ∀ (A : Around) (s₀ s : Shared) (X₀ : List Addr) (Q : Flow → Shared → Prop), Good A k → EnvOk env → FR C s₀ env X₀ v o s → (∀ s', FR C s₀ env X₀ v' o' s' → KeepF s.heap s'.heap → Q .next s') →
    wpAny (model C.prog C.w) A (execs st env) Q Never s
def ExsR (C : PC) (k : Nat) (env : Env) (v : Vals) (o : Own) (st : List Stmt) (d : D) : Prop :=
  ∀ (A : Around) (s₀ s : Shared) (X₀ : List Addr) (Q : Flow → Shared → Prop), Good A k → EnvOk env → FR C s₀ env X₀ v o s → (∀ w s', Kp s₀ s' → Rep X₀ s'.heap d w → Q (.ret w) s') →
    wpAny (model C.prog C.w) A (execs st env) Q Never s

/-- fewer names are known -/
inductive Fewer (v : Vals) : Vals → Prop
  | nil : Fewer v []
  | cons {x : Str} {d : D} {r : Vals} : Has v x d → Fewer v r → Fewer v ((x, d) :: r)
theorem Fewer.has {v : Vals} : ∀ {w : Vals}, Fewer v w → ∀ {x d}, Has w x d → Has v x d
  | _, .cons h r, _, _, q => by
    cases q with
    | head => exact h
    | tail _ q => exact r.has q

section
variable {C : PC} {k : Nat} {env : Env} {v v' v'' : Vals} {o o' o'' : Own}

theorem FR.fewer {s₀ s : Shared} {X₀ : List Addr} (h : FR C s₀ env X₀ v o s) (f : Fewer v v') : FR C s₀ env X₀ v' o s :=
  let ⟨as, a, b, c, d, e⟩ := h; ⟨as, a, fun x y q => b x y (f.has q), c, d, e⟩
theorem FR.up {s₀ s s' : Shared} {X₀ : List Addr} (h : FR C s₀ env X₀ v o s) (q : Kp s s') : FR C s₀ env X₀ v o s' := let ⟨as, f⟩ := h; ⟨as, f.up q⟩
theorem Exs.nil : Exs C k env v o [] v o := fun A s₀ s X₀ Q _ _ f q => wpAny_execs_nil (q s f (KeepF.refl _))
theorem Exs.cons {st : Stmt} {r : List Stmt} (h1 : Ex C k env v o st v' o') (h2 : Exs C k env v' o' r v'' o'') : Exs C k env v o (st :: r) v'' o'' := fun A s₀ s X₀ Q g eo f q =>
  wpAny_execs_cons (h1 A s₀ s X₀ _ g eo f fun s1 f1 k1 => h2 A s₀ s1 X₀ Q g eo f1 fun s2 f2 k2 => q s2 f2 (k1.trans k2))
theorem ExsR.cons {st : Stmt} {r : List Stmt} {d : D} (h1 : Ex C k env v o st v' o') (h2 : ExsR C k env v' o' r d) : ExsR C k env v o (st :: r) d := fun A s₀ s X₀ Q g eo f q =>
  wpAny_execs_cons (h1 A s₀ s X₀ _ g eo f fun s1 f1 k1 => h2 A s₀ s1 X₀ Q g eo f1 q)
theorem ExsR.ret {st : Stmt} {r : List Stmt} {d : D} (h1 : ExR C k env v o st d) : ExsR C k env v o (st :: r) d := fun A s₀ s X₀ Q g eo f q =>
  wpAny_execs_cons (h1 A s₀ s X₀ _ g eo f fun w s' k1 r1 => q w s' k1 r1)
theorem Exs.less {st : List Stmt} (h : Exs C k env v o st v' o') (f : Fewer v' v'') : Exs C k env v o st v'' o' := fun A s₀ s X₀ Q g eo fr q => h A s₀ s X₀ Q g eo fr fun s1 f1 k1 => q s1 (f1.fewer f) k1
theorem Exs.pre {st : List Stmt} (f : Fewer v v') (h : Exs C k env v' o st v'' o') : Exs C k env v o st v'' o' := fun A s₀ s X₀ Q g eo fr q => h A s₀ s X₀ Q g eo (fr.fewer f) q
theorem ExsR.pre {st : List Stmt} {d : D} (f : Fewer v v') (h : ExsR C k env v' o st d) : ExsR C k env v o st d := fun A s₀ s X₀ Q g eo fr q => h A s₀ s X₀ Q g eo (fr.fewer f) q

theorem Ex.ifT {t : PySem.Expr} {a b : List Stmt} {pos : Pos} (h : ∀ X, IsT C k env X v t true) (ha : Exs C k env v o a v' o') : Ex C k env v o (.If t a b pos) v' o' := fun A s₀ s X₀ Q g eo f q =>
  let ⟨as, fa⟩ := f
  wpAny_If (h _ A s _ (fa.inp g eo) fun s1 k1 => by simp only [if_true]; exact ha A s₀ s1 X₀ Q g eo (f.up k1) fun s2 f2 k2 => q s2 f2 (k1.sub.keepF.trans k2))
theorem Ex.ifF {t : PySem.Expr} {a b : List Stmt} {pos : Pos} (h : ∀ X, IsT C k env X v t false) (ha : Exs C k env v o b v' o') : Ex C k env v o (.If t a b pos) v' o' := fun A s₀ s X₀ Q g eo f q =>
  let ⟨as, fa⟩ := f
  wpAny_If (h _ A s _ (fa.inp g eo) fun s1 k1 => by simp only [Bool.false_eq_true, if_false]; exact ha A s₀ s1 X₀ Q g eo (f.up k1) fun s2 f2 k2 => q s2 f2 (k1.sub.keepF.trans k2))
theorem ExR.ifT {t : PySem.Expr} {a b : List Stmt} {pos : Pos} {d : D} (h : ∀ X, IsT C k env X v t true) (ha : ExsR C k env v o a d) : ExR C k env v o (.If t a b pos) d := fun A s₀ s X₀ Q g eo f q =>
  let ⟨as, fa⟩ := f
  wpAny_If (h _ A s _ (fa.inp g eo) fun s1 k1 => by simp only [if_true]; exact ha A s₀ s1 X₀ Q g eo (f.up k1) q)
theorem ExR.ifF {t : PySem.Expr} {a b : List Stmt} {pos : Pos} {d : D} (h : ∀ X, IsT C k env X v t false) (ha : ExsR C k env v o b d) : ExR C k env v o (.If t a b pos) d := fun A s₀ s X₀ Q g eo f q =>
  let ⟨as, fa⟩ := f
  wpAny_If (h _ A s _ (fa.inp g eo) fun s1 k1 => by simp only [Bool.false_eq_true, if_false]; exact ha A s₀ s1 X₀ Q g eo (f.up k1) q)

theorem FRa.kp {s₀ s : Shared} {X₀ as : List Addr} (f : FRa C s₀ env X₀ as v o s) : Kp s₀ s := by
  obtain ⟨m, cm, hc⟩ := f.call
  obtain ⟨h, tk, rfl⟩ := hc.toInCall.same
  exact ⟨h, tk, rfl, hc.toInCall.keep⟩
theorem ExR.ret {e : PySem.Expr} {pos : Pos} {d : D} (h : ∀ X, Ev C k env X v e d) : ExR C k env v o (.Return (some e) pos) d := fun A s₀ s X₀ Q g eo f q =>
  let ⟨as, fa⟩ := f
  wpAny_Return_some (h _ A s _ (fa.inp g eo) fun w s1 k1 r => q w s1 (fa.kp.trans k1) (r.less fun a ha => List.mem_append_right _ ha))

theorem Ex.assign {x : Str} {p pos : Pos} {e : PySem.Expr} {d : D} (h : ∀ X, Ev C k env X v e d) (hx : Sto env x) (ho : ∀ p ∈ o, p.1 ≠ x) (hs : swapsWith e (some (.Name x p)) pos.line env = pure false) :
    Ex C k env v o (.Assign [.Name x p] e pos) ((x, d) :: v) o := fun A s₀ s X₀ Q g eo f q =>
  let ⟨as, fa⟩ := f
  wpAny_Assign_Name (h _ A s _ (fa.inp g eo) fun w s1 k1 r => (fa.up k1).store eo hx ho r fun s2 f2 k2 _ => q s2 ⟨as, f2⟩ (k1.sub.keepF.trans k2)) hs

theorem load_name {l : Vals} {X : List Addr} {x : Str} {d : D} {A : Around} {s : Shared} {Q : Value → Shared → Prop} (hx : Has l x d) (i : Inp C k env X l A s) (h : ∀ v, Rep X s.heap d v → Q v s) : wpAny (model C.prog C.w) A (loadName env x) Q Never s := by
  obtain ⟨v, r, hh⟩ := i.binds x d hx
  rcases hh with ⟨hk, m, hn, hv⟩ | ⟨hk, c, hc, hv⟩
  · exact wpAny_loadName_local i.eok.kind hk hn hv (h _ r)
  · exact wpAny_loadName_cell i.eok.kind hk hc hv (h _ r)
theorem Ex.augAnd {x : Str} {p pos : Pos} {e : PySem.Expr} {a b : Int} (h1 : Has v x (.int a)) (h : ∀ X, Ev C k env X v e (.int b)) (hx : Sto env x) (ho : ∀ p ∈ o, p.1 ≠ x) :
    Ex C k env v o (.AugAssign (.Name x p) .BitAnd e pos) ((x, .int (Builtin.bitAnd a b)) :: v) o := fun A s₀ s X₀ Q g eo f q => by
  obtain ⟨as, fa⟩ := f
  refine wpAny_AugAssign_Name (load_name h1 (fa.inp g eo) fun w r => h _ A s _ (fa.inp g eo) fun w2 s1 k1 r2 => ?_)
  simp only [Rep] at r r2
  obtain ⟨t, rfl⟩ := r
  obtain ⟨u, rfl⟩ := r2
  refine PyProof.Rows.iand_int ?_
  exact ((fa.up k1).up (Kp.tok _ _)).store eo hx ho (by simp only [Rep]; exact ⟨_, rfl⟩) fun s2 f2 k2 _ => q s2 ⟨as, f2⟩ (k1.sub.keepF.trans k2)

theorem Ex.assignComp {sc scope : Scope} {elt iter : PySem.Expr} {y x : Str} {py px pos spos : Pos} {ifs : List PySem.Expr} {ds : List D} {lc : Vals} (p : D → Bool) (f : D → D)
    (fe : FEnv env sc) (hit : ∀ X, It C k env X v iter ds) (hcell : ∀ y ∈ scope.names, y.2 ≠ .cell) (hkind : scope.kind = .function) (hx : scope.names.lookup x = some .local)
    (hnames : ∀ y ∈ scope.names, y.2 = .local → scope.names.lookup y.1 = some .local)
    (hcl : ∀ y ∈ scope.names, y.2 = .free → sc.names.lookup y.1 = some .cell) (hcap : Caps v scope sc lc) (hz : ds.length ≤ 1000)
    (hsc : ∀ d ∈ ds, p d = true → Sc (f d) = true)
    (body : ∀ X env' d, d ∈ ds → CEnv env' scope env → Tests C k env' X ((x, d) :: lc) ifs (p d) ∧ (p d = true → Ev C k env' X ((x, d) :: lc) elt (f d)))
    (hs : ∀ x, foldedSetIterable iter env x = pure x) (hy : Sto env y) (ho : ∀ p ∈ o, p.1 ≠ y)
    (hsw : swapsWith (.ListComp elt [⟨.Name x px, iter, ifs, 0⟩] scope pos) (some (.Name y py)) spos.line env = pure true) :
    Ex C k env v o (.Assign [.Name y py] (.ListComp elt [⟨.Name x px, iter, ifs, 0⟩] scope pos) spos) ((y, .list ((ds.filter p).map f)) :: v) o := fun A s₀ s X₀ Q g eo fr q => by
  obtain ⟨as, fa⟩ := fr
  have hclos : closureFor scope env = pure (closeOf env scope.names []) := closureFor_eq fun y hy hf => by
    have := hcl y hy hf
    rw [fe.cells]
    exact PySem.W.cellsFrom_some _ _ _ (.inl this)
  rw [exec_Assign_Name_used _ _ _ _ hsw]
  refine wpAny_bind (wpAny_standAt (wpAny_bind ?_))
  show wpAny _ A (do let _ ← comprehension (.ListComp elt [⟨.Name x px, iter, ifs, 0⟩] scope pos) scope env _ (newList []) false (eval iter env) (some (PySem.assign (.Name y py) env))) _ _ s
  refine wpAny_bind (wpAny_mono (wpAny_comprehension_free (use := some (PySem.assign (.Name y py) env)) (Q := fun _ s' => Q .next s') rfl hs hclos hkind hnames ?_) (fun _ s' hq => wpAny_pure (wpAny_pure hq)) fun _ _ e => e)
  have ip := fa.inp g eo
  refine comp_core fe (hit _) hcell hkind hx hcl hcap hz hsc (body _) ip (RR := fun acc Cc => compPost (model C.prog C.w) A Never (some (PySem.assign (.Name y py) env)) (fun _ s' => Q .next s') acc Cc) ?_
  intro Dd Cc h' tk m' ys hD hC hDC hn hl hr hsub
  show wpAny _ A (PySem.assign (.Name y py) env (.ref Dd)) _ _ _
  have k1 : Kp s { s with heap := h', toks := tk } := ⟨h', tk, rfl, hsub⟩
  have rD : Rep (as ++ X₀) h' (.list ((ds.filter p).map f)) (.ref Dd) := by
    simp only [Rep]
    refine ⟨Dd, ys, rfl, fun hX => ?_, hl, hr _ _⟩
    obtain ⟨o, e⟩ := ip.alive _ hX
    rw [hD] at e; cases e
  refine wpAny_assign_Name ((fa.up k1).store eo hy ho rD fun s2 f2 k2 kS => ?_)
  have hCL : Cc ≠ env.locals := by
    rintro rfl
    obtain ⟨m, cm, hc⟩ := fa.call
    obtain ⟨o, es, ep, h1, _⟩ := hc.toInCall.ns
    rw [h1] at hC; cases hC
  have hn2 : s2.heap.Ns Cc m' := by
    obtain ⟨o, es, ep, h1, h2, h3⟩ := hn
    exact ⟨o, es, ep, kS.keep Cc o hCL (by rw [h2]; exact fun _ q => nomatch q) h1, h2, h3⟩
  refine ⟨m', hn2, fun h3 hs3 => q _ ⟨as, f2.other hn2 hs3 hCL ?_⟩ ?_⟩
  · cases e : s₀.heap.get? Cc with
    | none => rfl
    | some o => rw [fa.sub _ _ e] at hC; cases hC
  · intro b ob fs e hd
    refine (hs3.2 b ?_).trans ((hsub.keepF.trans k2) b ob fs e hd)
    rintro rfl
    rw [e] at hC; cases hC
end
end Mine
end
section
open PySem PyProof.Rows
set_option linter.unusedVariables false
namespace Mine
section
variable {C : PC} {k : Nat} {env : Env} {v v' v'' : Vals} {o o' o'' : Own}

/-- names stored one after the other -/
theorem store_all {A : Around} {s₀ : Shared} {X₀ as : List Addr} (eo : EnvOk env) : ∀ (xs : List (Str × Pos)) (ds : List D) (vs : List Value) (v : Vals) (s : Shared) (Q : Unit → Shared → Prop), FRa C s₀ env X₀ as v o s → (∀ x ∈ xs, Sto env x.1) → (∀ x ∈ xs, ∀ p ∈ o, p.1 ≠ x.1) →
    RepAll (as ++ X₀) s.heap ds vs → xs.length = ds.length →
    (∀ s', FRa C s₀ env X₀ as (((xs.map (·.1)).zip ds).reverse ++ v) o s' → KeepF s.heap s'.heap → Q () s') → wpAny (model C.prog C.w) A (assignInOrder (xs.map fun x => PySem.assign (.Name x.1 x.2) env) vs) Q Never s
  | [], [], vs, v, s, Q, f, _, _, r, _, q => by
    simp only [RepAll] at r; subst r
    exact wpAny_pure (q s (by simpa using f) (KeepF.refl _))
  | x :: xs, d :: ds, vs, v, s, Q, f, hx, ho, r, hl, q => by
    simp only [RepAll] at r
    obtain ⟨w, ws, rfl, r1, r2⟩ := r
    show wpAny _ A (do holding ws (PySem.assign (.Name x.1 x.2) env w); assignInOrder (xs.map fun x => PySem.assign (.Name x.1 x.2) env) ws) Q Never s
    obtain ⟨m, cm, hc⟩ := f.call
    refine wpAny_bind (wpAny_holding (wpAny_assign_Name (f.store eo (hx x List.mem_cons_self) (ho x List.mem_cons_self) r1 fun s1 f1 k1 kS => ?_)))
    have sx : SubX (as ++ X₀) s.heap s1.heap := fun b ob items n _ e hd => kS.keep b ob (seq_ne_dict e hd hc.toInCall.ns) (by rw [hd]; exact fun _ q => nomatch q) e
    refine store_all eo xs ds ws _ s1 Q f1 (fun y hy => hx y (List.mem_cons_of_mem _ hy)) (fun y hy => ho y (List.mem_cons_of_mem _ hy)) (r2.mono (fun _ q => q) sx) (by simpa using hl) fun s2 f2 k2 => ?_
    exact q s2 (by simpa using f2) (k1.trans k2)
  | [], _ :: _, _, _, _, _, _, _, _, _, hl, _ => by simp at hl
  | _ :: _, [], _, _, _, _, _, _, _, _, hl, _ => by simp at hl

theorem assignEach_names (env : Env) : ∀ (xs : List (Str × Pos)), assignEach (xs.map fun x => PySem.Expr.Name x.1 x.2) env = xs.map fun x => (false, PySem.assign (.Name x.1 x.2) env)
  | [] => rfl
  | x :: xs => by
    show (false, PySem.assign (.Name x.1 x.2) env) :: assignEach (xs.map fun x => PySem.Expr.Name x.1 x.2) env = _
    rw [assignEach_names env xs]; rfl

theorem Ex.assignTup {xs : List (Str × Pos)} {n : Nat} {tp pos : Pos} {e : PySem.Expr} {ds : List D} (h : ∀ X, Ev C k env X v e (.tup ds)) (hx : ∀ x ∈ xs, Sto env x.1) (ho : ∀ x ∈ xs, ∀ p ∈ o, p.1 ≠ x.1) (hl : xs.length = ds.length)
    (hs : swapsWithSole [.Tuple (xs.map fun x => PySem.Expr.Name x.1 x.2) n tp] e pos.line env = pure false) (hw : swappedStores [.Tuple (xs.map fun x => PySem.Expr.Name x.1 x.2) n tp] e env = pure none) :
    Ex C k env v o (.Assign [.Tuple (xs.map fun x => PySem.Expr.Name x.1 x.2) n tp] e pos) (((xs.map (·.1)).zip ds).reverse ++ v) o := fun A s₀ s X₀ Q g eo f q => by
  obtain ⟨as, fa⟩ := f
  refine Assign_Tuple (h _ A s _ (fa.inp g eo) fun w s1 k1 r => ?_) hs hw
  simp only [Rep] at r
  obtain ⟨a, vs, rfl, _, ht, ra⟩ := r
  refine assign_Tuple_tuple g.1 ht (by rw [assignEach_names, List.length_map, List.size_toArray, ra.length, hl]) (by rw [assignEach_names, List.findIdx?_eq_none_iff]; intro x hx; simp only [List.mem_map] at hx; obtain ⟨y, _, rfl⟩ := hx; rfl) fun h' he => ?_
  have k2 : Kp s1 { s1 with heap := h' } := ⟨h', s1.toks, rfl, fun b ob e => he b ob (Nat.ne_of_lt (Heap.lt_size e)) e⟩
  rw [assignEach_names, List.map_map]
  refine store_all eo xs ds _ v _ _ ((fa.up k1).up k2) hx ho (ra.up k2.sub) hl fun s3 f3 k3 => ?_
  exact q s3 ⟨as, f3⟩ ((k1.sub.keepF.trans k2.sub.keepF).trans k3)

/-- an empty list that the frame is to fill -/
theorem Ex.own {x : Str} {p lp pos : Pos} (hx : env.kindOf x = some .local) (ho : ∀ p ∈ o, p.1 ≠ x) (hv : ∀ d, ¬ Has v x d) (hs : swapsWith (.List [] lp) (some (.Name x p)) pos.line env = pure false) :
    Ex C k env v o (.Assign [.Name x p] (.List [] lp) pos) v ((x, []) :: o) := fun A s₀ s X₀ Q g eo f q => by
  obtain ⟨as, fa⟩ := f
  refine wpAny_Assign_Name (wpAny_List (wpAny_items_nil ⟨Nat.zero_le _, ?_⟩)) hs
  have k1 := Kp.push s { cls := .type "list", data := .seq ([] : List Value).toArray }
  have fb := fa.up k1
  have rD : Rep (as ++ X₀) (s.heap.push { cls := .type "list", data := .seq ([] : List Value).toArray }) (.list []) (.ref s.heap.objs.size) := rep_push_list (fa.inp g eo).alive RepAll.nil
  have hsz : s₀.heap.objs.size ≤ s.heap.objs.size := by
    obtain ⟨m, cm, hc⟩ := fa.call
    have := hc.toInCall.fresh
    exact Nat.le_trans this (Nat.le_of_lt (by obtain ⟨o, _, _, e, _⟩ := hc.toInCall.ns; exact Heap.lt_size e))
  have hnew : s.heap.get? s.heap.objs.size = none := none_size _
  have hna : s.heap.objs.size ∉ as ++ X₀ := fresh_not (fa.inp g eo).alive (Nat.le_refl _)
  refine fb.storeV eo (.inl hx) fun s2 hc2 st => q s2 ⟨s.heap.objs.size :: as, ?_⟩ (k1.sub.keepF.trans st.keepF)
  obtain ⟨m1, cm1, hc1⟩ := fb.call
  have hn1 := hc1.toInCall.ns
  have hsub : ∀ a ∈ s.heap.objs.size :: as ++ X₀, a ∈ as ++ X₀ ∨ s.heap.get? a = none := fun a ha => by
    rcases List.mem_cons.mp ha with rfl | ha
    · exact .inr hnew
    · exact .inl ha
  have mv : ∀ {d : D} {w : Value}, Rep (as ++ X₀) s.heap d w → Rep (s.heap.objs.size :: as ++ X₀) s2.heap d w := fun r =>
    ((r.more hsub).up k1.sub).mono (fun _ q => q) (st.subX hn1)
  have mvs : ∀ {ds : List D} {ws : List Value}, RepAll (as ++ X₀) s.heap ds ws → RepAll (s.heap.objs.size :: as ++ X₀) s2.heap ds ws := fun r =>
    ((r.more hsub).up k1.sub).mono (fun _ q => q) (st.subX hn1)
  refine ⟨hc2, ?_, ?_, fa.base, fa.alive⟩
  · intro y e hy
    have hne : y ≠ x := by rintro rfl; exact hv _ hy
    obtain ⟨w, r, hh⟩ := fa.binds y e hy
    exact ⟨w, mv r, st.rest y w hne (hh.up k1.sub)⟩
  · simp only [Owns]
    have own2 : Owns env (s.heap.objs.size :: as ++ X₀) s2.heap s₀.heap.objs.size o as := by
      have o1 : Owns env (s.heap.objs.size :: as ++ X₀) (s.heap.push { cls := .type "list", data := .seq ([] : List Value).toArray }) s₀.heap.objs.size o as :=
        fa.owns.move (fun m x v h1 h2 => ⟨m, h1.keeps k1.sub, h2⟩) (fun a vs hp => hp.at fun o e => k1.sub _ _ e) (fun ds vs r => (r.more hsub).up k1.sub)
      exact Owns.stored st hn1 (fun _ _ r => r.mono (fun _ q => q) (st.subX hn1)) ho o1
    refine ⟨s.heap.objs.size, as, rfl, hsz, fun h => hna (List.mem_append_left _ h), ho, hx, ?_, ⟨[], ?_, RepAll.nil⟩, own2⟩
    · rcases st.now with ⟨_, m2, h2, h3⟩ | ⟨hk', _⟩
      · exact ⟨m2, h2, h3⟩
      · rw [hx] at hk'; cases hk'
    · refine ⟨0, st.keep _ _ (seq_ne_dict (items := #[]) (n := 0) (Heap.get?_push_size _ rfl) rfl hn1) (by exact fun _ q => nomatch q) (Heap.get?_push_size _ rfl)⟩
end
end Mine
end
section
open PySem PyProof.Rows
set_option linter.unusedVariables false
namespace Mine

inductive Upd (x : Str) (d : D) : Own → Own → Prop
  | head {ds : List D} {r : Own} : Upd x d ((x, ds) :: r) ((x, ds ++ [d]) :: r)
  | tail {p : Str × List D} {r r' : Own} : Upd x d r r' → Upd x d (p :: r) (p :: r')

section
variable {C : PC} {k : Nat} {env : Env} {v v' v'' : Vals} {o o' o'' : Own}

theorem Upd.names {x : Str} {d : D} : ∀ {o o' : Own}, Upd x d o o' → o'.map (·.1) = o.map (·.1)
  | _, _, .head => rfl
  | _, _, .tail h => by simp [h.names]
theorem Owns.keepBut {X : List Addr} {h h' : Heap} {lo : Nat} {a : Addr} {oa : Obj} {ia na} (ha : h.get? a = some oa) (hda : oa.data = .seq ia na) (hs : Heap.SameBut a h h') (hX : a ∈ X) : ∀ {own : Own} {bs : List Addr}, a ∉ bs → Owns env X h lo own bs → Owns env X h' lo own bs
  | [], _, _, q => by simpa only [Owns] using q
  | (x, ds) :: r, bs, hb, q => by
    simp only [Owns] at q ⊢
    obtain ⟨b, bs', rfl, hlo, hb', hne, hk, ⟨m, hm, hx⟩, ⟨vs, ⟨n, hp⟩, hr⟩, hh⟩ := q
    have hba : b ≠ a := fun e => hb (by rw [e]; exact List.mem_cons_self)
    have sx : SubX X h h' := fun c oc items n hc e _ => (hs.2 c (fun e' => hc (e' ▸ hX))).trans e
    exact ⟨b, bs', rfl, hlo, hb', hne, hk, ⟨m, hm.sameBut hs (Ne.symm (seq_ne_dict ha hda hm)), hx⟩, ⟨vs, ⟨n, (hs.2 b hba).trans hp⟩, hr.mono (fun _ q => q) sx⟩, Owns.keepBut ha hda hs hX (fun q => hb (List.mem_cons_of_mem _ q)) hh⟩
theorem Owns.upd {X : List Addr} {h : Heap} {lo : Nat} {x : Str} {d : D} : ∀ {own own' : Own} {bs : List Addr}, (∀ b ∈ bs, b ∈ X) → Owns env X h lo own bs → Upd x d own own' →
    ∃ a vs, a ∈ bs ∧ env.kindOf x = some .local ∧ (∃ m, h.Ns env.locals m ∧ m x = some (.ref a)) ∧ h.PlainList a (List.toArray vs) ∧ (∃ ds, RepAll X h ds vs ∧ (x, ds) ∈ own) ∧ lo ≤ a ∧
      ∀ (h' : Heap) (w : Value), h'.PlainList a (List.toArray (vs ++ [w])) → Heap.SameBut a h h' → Rep X h d w → Owns env X h' lo own' bs
  | (_, ds) :: r, _, bs, hX, q, .head => by
    simp only [Owns] at q
    obtain ⟨b, bs', rfl, hlo, hb', hne, hk, ⟨m, hm, hx⟩, ⟨vs, hp, hr⟩, hh⟩ := q
    refine ⟨b, vs, List.mem_cons_self, hk, ⟨m, hm, hx⟩, hp, ⟨ds, hr, List.mem_cons_self⟩, hlo, fun h' w hp' hs hw => ?_⟩
    obtain ⟨n, e⟩ := hp
    have hXb := hX b List.mem_cons_self
    have sx : SubX X h h' := fun c oc items n hc e _ => (hs.2 c (fun e' => hc (e' ▸ hXb))).trans e
    simp only [Owns]
    exact ⟨b, bs', rfl, hlo, hb', hne, hk, ⟨m, hm.sameBut hs (Ne.symm (seq_ne_dict e rfl hm)), hx⟩, ⟨vs ++ [w], hp', (hr.append (RepAll.one hw)).mono (fun _ q => q) sx⟩, Owns.keepBut e rfl hs hXb hb' hh⟩
  | p :: r, _ :: r', bs, hX, q, .tail u => by
    obtain ⟨y, ds⟩ := p
    simp only [Owns] at q
    obtain ⟨b, bs', rfl, hlo, hb', hne, hk, ⟨m, hm, hx⟩, ⟨vs, ⟨n, hp⟩, hr⟩, hh⟩ := q
    obtain ⟨a, ws, ha, hk', hm', hpa, ⟨es, hes, hmem⟩, hloa, go⟩ := Owns.upd (fun c hc => hX c (List.mem_cons_of_mem _ hc)) hh u
    refine ⟨a, ws, List.mem_cons_of_mem _ ha, hk', hm', hpa, ⟨es, hes, List.mem_cons_of_mem _ hmem⟩, hloa, fun h' w hp' hs hw => ?_⟩
    have hXa := hX a (List.mem_cons_of_mem _ ha)
    have hba : b ≠ a := fun e => hb' (e ▸ ha)
    obtain ⟨na, ea⟩ := hpa
    have sx : SubX X h h' := fun c oc items n hc e _ => (hs.2 c (fun e' => hc (e' ▸ hXa))).trans e
    have hne' : ∀ p ∈ r', p.1 ≠ y := fun p hp => by
      have : p.1 ∈ r'.map (·.1) := List.mem_map_of_mem hp
      rw [u.names] at this
      obtain ⟨p', hp', e⟩ := List.mem_map.mp this
      rw [← e]; exact hne p' hp'
    simp only [Owns]
    exact ⟨b, bs', rfl, hlo, hb', hne', hk, ⟨m, hm.sameBut hs (Ne.symm (seq_ne_dict ea rfl hm)), hx⟩, ⟨vs, ⟨n, (hs.2 b hba).trans hp⟩, hr.mono (fun _ q => q) sx⟩, go h' w hp' hs hw⟩

theorem Ex.append {x : Str} {p ap cp pos : Pos} {e : PySem.Expr} {d : D} (u : Upd x d o o') (h : ∀ X, Ev C k env X v e d) (hz : ∀ q ∈ o, q.2.length ≤ 1000) (hap : ap.endLine = cp.line)
    (he : starEach [e] env = (false, eval e env) :: starEach [] env) (hd : (x == ("__debug__" : Str)) = false) :
    Ex C k env v o (.Expr (.Call (.Attribute (.Name x p) (Str.ofString "append") ap) [e] [] cp) pos) v o' := fun A s₀ s X₀ Q g eo f q => by
  obtain ⟨as, fa⟩ := f
  refine wpAny_Expr ?_ (by unfold interactive; rw [eo.kind]; rfl) rfl
  have e1 : ∀ w, attributeBase (.Name x p) (Str.ofString "append") env w = w := fun w => rfl
  show wpAny _ A (do
    let ov ← attributeBase (.Name x p) (Str.ofString "append") env (eval (.Name x p) env)
    standAt ap.atName
    methodCall (.Name x p) (Str.ofString "append") ap cp env ov 1 (backTo cp (starEach [e] env)) []) _ Never s
  rw [e1]
  obtain ⟨a, vs, ha, hk, ⟨m, hm, hx⟩, hp, _, _⟩ := Owns.upd (fun b hb => List.mem_append_left _ hb) fa.owns u
  refine wpAny_bind (wpAny_Name (wpAny_loadName_local eo.kind hk hm hx ?_) hd)
  refine wpAny_bind (wpAny_standAt ?_)
  unfold methodCall
  refine wpAny_bind (wpAny_holding ?_)
  have e2 : methodCallForm 1 (backTo cp (starEach [e] env)) [] = true := by rw [he]; rfl
  rw [e2]
  show wpAny _ A (getMethod (.ref a) (Str.ofString "append") _) _ _ _
  obtain ⟨n, ea⟩ := hp
  refine Calls.getMethod_list_append ea rfl rfl ?_
  refine wpAny_bind ?_
  have e3 : methodCallPos true (.Name x p) env ap cp = pure cp := by
    unfold methodCallPos
    rw [show (!true || ap.endLine == cp.line) = true by rw [hap]; simp]; rfl
  rw [e3]
  refine wpAny_pure ?_
  refine callWith_method1 (env := env) (EvAll.cons (h _) EvAll.nil he A s cp _ (fa.inp g eo) fun ws s1 k1 r1 => ?_) he rfl
  simp only [RepAll] at r1
  obtain ⟨w, ws', rfl, rw1, rfl⟩ := r1
  have fb := fa.up k1
  obtain ⟨a', vs', ha', hk', ⟨m', hm', hx'⟩, hp', ⟨ds', hds', hmem'⟩, hlo', go⟩ := Owns.upd (fun b hb => List.mem_append_left _ hb) fb.owns u
  have haa : a' = a := by
    have h1 : s1.heap.Ns env.locals m := hm.keeps k1.sub
    have h2 := ns_unique h1 hm'
    rw [← h2, hx] at hx'
    cases hx'; rfl
  subst haa
  show wpAny _ A (call (.builtin "list.append") [.ref a', w]) _ _ _
  refine wpAny_list_append_plain (hsz := by rw [List.size_toArray, hds'.length, show sizeLine = 16777216 from rfl]; have := hz _ hmem'; simp at this; omega) hp' fun h' hpl hs => ?_
  have hpl' : h'.PlainList a' (List.toArray (vs' ++ [w])) := by simpa using hpl
  have own2 := go h' w hpl' hs rw1
  obtain ⟨n', ea'⟩ := hp'
  obtain ⟨m1, cm1, hc1⟩ := fb.call
  have hX : a' ∈ as ++ X₀ := List.mem_append_left _ ha'
  have sx : SubX (as ++ X₀) s1.heap h' := fun c oc items n hc e _ => (hs.2 c (fun e' => hc (e' ▸ hX))).trans e
  have ns : ∀ L m, s1.heap.Ns L m → h'.Ns L m := fun L m q => q.sameBut hs (Ne.symm (seq_ne_dict ea' rfl q))
  have cell : ∀ c w, s1.heap.IsCell c w → h'.IsCell c w := fun c w q => q.sameBut hs (Ne.symm (seq_ne_cell ea' rfl q))
  refine q _ ⟨as, ⟨⟨m1, cm1, ⟨⟨?_, ns _ _ hc1.toInCall.ns, fun b ob e => ?_, hc1.toInCall.fresh⟩, fun n c hc => cell _ _ (hc1.cell n c hc), hc1.apart, hc1.above⟩⟩, ?_, own2, fa.base, fa.alive⟩⟩ ?_
  · obtain ⟨h₁, tk, rfl⟩ := hc1.toInCall.same
    exact ⟨h', _, rfl⟩
  · exact (hs.2 b (Nat.ne_of_lt (Nat.lt_of_lt_of_le (Heap.lt_size e) hlo'))).trans (hc1.toInCall.keep b ob e)
  · intro y d hy
    obtain ⟨z, rz, hz⟩ := fb.binds y d hy
    refine ⟨z, rz.mono (fun _ q => q) sx, ?_⟩
    rcases hz with ⟨k1, m1, k2, k3⟩ | ⟨k1, c, k2, k3⟩
    · exact .inl ⟨k1, m1, ns _ _ k2, k3⟩
    · exact .inr ⟨k1, c, k2, cell _ _ k3⟩
  · intro b ob fs e hd
    refine (hs.2 b ?_).trans (k1.sub _ _ e)
    rintro rfl
    rw [k1.sub _ _ e] at ea'; cases ea'
    cases hd

/-- a filled list is a plain value again -/
theorem FR.freeze {s₀ s : Shared} {X₀ : List Addr} {x : Str} {ds : List D} (hal : True) (f : FR C s₀ env X₀ v ((x, ds) :: o) s) : FR C s₀ env X₀ ((x, .list ds) :: v) o s := by
  obtain ⟨as, hc, hb, hw, base, al⟩ := f
  simp only [Owns] at hw
  obtain ⟨a, as', rfl, hlo, hna, hne, hk, ⟨m, hm, hx⟩, ⟨vs, hp, hr⟩, hh⟩ := hw
  have less : ∀ b ∈ as' ++ X₀, b ∈ a :: as' ++ X₀ := fun b hb => List.mem_cons_of_mem _ hb
  refine ⟨as', hc, ?_, hh.move (fun m x v h1 h2 => ⟨m, h1, h2⟩) (fun _ _ h => h) (fun _ _ r => r.less less), base, al⟩
  intro y e hy
  cases hy with
  | head =>
    refine ⟨.ref a, ?_, .inl ⟨hk, m, hm, hx⟩⟩
    simp only [Rep]
    refine ⟨a, vs, rfl, fun q => ?_, hp.isList, hr.less less⟩
    rcases List.mem_append.mp q with q | q
    · exact hna q
    · obtain ⟨ob, e⟩ := al a q
      exact absurd (Heap.lt_size e) (Nat.not_lt.mpr hlo)
  | tail _ hy =>
    obtain ⟨w, r, hh⟩ := hb y e hy
    exact ⟨w, r.less less, hh⟩
theorem ExsR.freeze {x : Str} {ds : List D} {st : List Stmt} {d : D} (h : ExsR C k env ((x, .list ds) :: v) o st d) : ExsR C k env v ((x, ds) :: o) st d := fun A s₀ s X₀ Q g eo f q => h A s₀ s X₀ Q g eo (FR.freeze trivial f) q
theorem Exs.freeze {x : Str} {ds : List D} {st : List Stmt} (h : Exs C k env ((x, .list ds) :: v) o st v' o') : Exs C k env v ((x, ds) :: o) st v' o' := fun A s₀ s X₀ Q g eo f q => h A s₀ s X₀ Q g eo (FR.freeze trivial f) q

theorem Ex.forR {x : Str} {px pos : Pos} {iter : PySem.Expr} {body : List Stmt} {a c : Int} {n : Nat} (V : Nat → Vals) (O : Nat → Own) (hit : ∀ X, ItR C k env X v iter a c n) (hv : Fewer v (V 0)) (ho : o = O 0) (hx : Sto env x) (hox : ∀ i, ∀ p ∈ O i, p.1 ≠ x)
    (hb : ∀ i, i < n → Exs C k env ((x, .int (a + i * c)) :: V i) (O i) body (V (i + 1)) (O (i + 1))) (hs : ∀ y, foldedSetIterable iter env y = pure y) : Ex C k env v o (.For (.Name x px) iter body [] pos) (V n) (O n) := fun A s₀ s X₀ Q g eo f q => by
  obtain ⟨as, fa⟩ := f
  refine wpAny_For (hit _ A s _ (fa.inp g eo) fun I s₁ s₂ k1 k2 hI hir => ?_) hs
  have k12 := k1.trans k2
  have hI0 : s₀.heap.get? I = none := by
    cases e : s₀.heap.get? I with
    | none => rfl
    | some ob => rw [k1.sub _ _ (fa.sub _ _ e)] at hI; cases hI
  refine codeAny_forLoop (fun j s' => ∃ i, i ≤ n ∧ j = n + 1 - i ∧ FR C s₀ env X₀ (V i) (O i) s' ∧ IsRangeIter s'.heap I (a + (i : Nat) * c) ((n : Int) - (i : Nat)) c ∧ KeepF s.heap s'.heap) ?_ (n + 1) ?_
  · rintro j s' ⟨i, hi, rfl, f, hir, kf⟩
    by_cases hlt : i < n
    · refine wpAny_pyNext_range_item hir (by omega) fun h' hit' hs' => ?_
      obtain ⟨bs, fb⟩ := f
      have fb' := fb.iter (tk := s'.toks + 1) hir rfl (fun b ob hne e => hs'.extBut b ob hne e) hI0
      refine wpAny_assign_Name (wpAny_mono (fb'.store eo hx (hox i) (d := .int (a + i * c)) (by simp only [Rep]; exact ⟨_, rfl⟩) (Q := fun _ s2 => FR C s₀ env X₀ ((x, .int (a + i * c)) :: V i) (O i) s2 ∧ KeepF h' s2.heap) fun s2 f2 k2 _ => ⟨⟨bs, f2⟩, k2⟩) (fun _ s2 h2 => ?_) fun _ _ e => e.elim)
      refine wpAny_mono (hb i hlt A s₀ s2 X₀ (fun fl s3 => fl = .next ∧ FR C s₀ env X₀ (V (i + 1)) (O (i + 1)) s3 ∧ KeepF s2.heap s3.heap) g eo h2.1 fun s3 f3 k3 => ⟨rfl, f3, k3⟩) (fun fl s3 h3 => ?_) fun _ _ e => e.elim
      obtain ⟨rfl, f3, k3⟩ := h3
      have e1 : a + ((i + 1 : Nat) : Int) * c = a + (i : Int) * c + c := by push_cast; rw [Int.add_mul, Int.one_mul, Int.add_assoc]
      have e2 : (n : Int) - ((i + 1 : Nat) : Int) = (n : Int) - (i : Int) - 1 := by push_cast; omega
      refine ⟨n + 1 - (i + 1), by omega, i + 1, hlt, rfl, f3, ?_, ?_⟩
      · rw [e1, e2]
        exact (h2.2.trans k3) I _ _ hit' rfl
      · intro b ob fs e hd
        by_cases hbI : b = I
        · subst hbI
          exact absurd e (by rw [show s.heap.get? b = none by cases e' : s.heap.get? b with | none => rfl | some o' => rw [k1.sub _ _ e'] at hI; cases hI]; simp)
        · exact (h2.2.trans k3) b ob fs (hs'.extBut b ob hbI (kf b ob fs e hd)) hd
    · have hin : i = n := by omega
      subst hin
      refine wpAny_pyNext_range_end g.1 hir (by omega) fun h' he => wpAny_execs_nil ?_
      obtain ⟨bs, fb⟩ := f
      refine q _ ⟨bs, fb.iter hir rfl (fun b ob hne e => he b ob hne e) hI0⟩ ?_
      intro b ob fs e hd
      by_cases hbI : b = I
      · subst hbI
        exact absurd e (by rw [show s.heap.get? b = none by cases e' : s.heap.get? b with | none => rfl | some o' => rw [k1.sub _ _ e'] at hI; cases hI]; simp)
      · exact he b ob hbI (kf b ob fs e hd)
  · subst ho
    exact ⟨0, Nat.zero_le _, rfl, FR.fewer ⟨as, fa.up k12⟩ hv, by simpa using hir, k12.sub.keepF⟩
end
end Mine
end
section
open PySem PyProof.Rows
set_option linter.unusedVariables false
namespace Mine

theorem has_zip : ∀ {xs : List Str} {ds : List D} {x : Str} {d : D}, Has (xs.zip ds) x d → ∃ i : Nat, xs[i]? = some x ∧ ds[i]? = some d
  | [], _, _, _, h => by simp at h; cases h
  | _ :: _, [], _, _, h => by simp at h; cases h
  | y :: ys, e :: es, x, d, h => by
    rw [List.zip_cons_cons] at h
    cases h with
    | head => exact ⟨0, rfl, rfl⟩
    | tail _ h => obtain ⟨i, h1, h2⟩ := has_zip h; exact ⟨i + 1, by simpa using h1, by simpa using h2⟩
theorem bindL_out {kf : Str → Option NameKind} {x : Str} : ∀ {b : List (Str × Value)} {m : Str → Option Value}, (∀ p ∈ b, p.1 ≠ x) → bindL kf b m x = m x
  | [], _, _ => rfl
  | (n, v) :: r, m, h => by
    unfold bindL
    rw [bindL_out fun p hp => h p (List.mem_cons_of_mem _ hp)]
    split
    · show (if x = n then some v else m x) = m x
      rw [if_neg (Ne.symm (h (n, v) List.mem_cons_self))]
    · rfl
theorem bindC_out {kf : Str → Option NameKind} {x : Str} : ∀ {b : List (Str × Value)} {m : Str → Option Value}, (∀ p ∈ b, p.1 ≠ x) → bindC kf b m x = m x
  | [], _, _ => rfl
  | (n, v) :: r, m, h => by
    unfold bindC
    rw [bindC_out fun p hp => h p (List.mem_cons_of_mem _ hp)]
    split
    · rfl
    · show (if x = n then some v else m x) = m x
      rw [if_neg (Ne.symm (h (n, v) List.mem_cons_self))]
theorem zip_fst {xs : List Str} {vs : List Value} {p : Str × Value} (h : p ∈ xs.zip vs) : p.1 ∈ xs := (List.of_mem_zip (a := p.1) (b := p.2) h).1
theorem bindL_at {kf : Str → Option NameKind} : ∀ {xs : List Str} {vs : List Value} {m : Str → Option Value} {i : Nat} {x : Str} {v : Value}, xs.Nodup → xs[i]? = some x → vs[i]? = some v → kf x = some .local → bindL kf (xs.zip vs) m x = some v
  | [], _, _, _, _, _, _, h, _, _ => by simp at h
  | _ :: _, [], _, _, _, _, _, _, h, _ => by simp at h
  | y :: ys, w :: ws, m, i, x, v, hn, h1, h2, hk => by
    rw [List.zip_cons_cons]
    unfold bindL
    obtain ⟨hy, hn'⟩ := List.nodup_cons.mp hn
    cases i with
    | zero =>
      simp at h1 h2; subst h1; subst h2
      rw [bindL_out (x := y) fun p hp e => hy (e ▸ zip_fst hp), if_pos hk]; simp
    | succ i => exact bindL_at hn' (by simpa using h1) (by simpa using h2) hk
theorem bindC_at {kf : Str → Option NameKind} : ∀ {xs : List Str} {vs : List Value} {m : Str → Option Value} {i : Nat} {x : Str} {v : Value}, xs.Nodup → xs[i]? = some x → vs[i]? = some v → kf x ≠ some .local → bindC kf (xs.zip vs) m x = some v
  | [], _, _, _, _, _, _, h, _, _ => by simp at h
  | _ :: _, [], _, _, _, _, _, _, h, _ => by simp at h
  | y :: ys, w :: ws, m, i, x, v, hn, h1, h2, hk => by
    rw [List.zip_cons_cons]
    unfold bindC
    obtain ⟨hy, hn'⟩ := List.nodup_cons.mp hn
    cases i with
    | zero =>
      simp at h1 h2; subst h1; subst h2
      rw [bindC_out (x := y) fun p hp e => hy (e ▸ zip_fst hp), if_neg hk]; simp
    | succ i => exact bindC_at hn' (by simpa using h1) (by simpa using h2) hk

/-- the text's defs stand in the heap -/
structure FnAt (C : PC) (d : DefRec) : Prop where
  at_ : ∃ a o pm code doc, C.mg d.name = some (.ref a) ∧ C.base.get? a = some o ∧ o.data = .func (Calls.docDef d.name d.params d.body d.scope pm code doc) ∧ C.base.CodeRec code d.name

def okKind (sc : Scope) (xs : List Str) : Bool := xs.all fun x => sc.names.lookup x == some .local || sc.names.lookup x == some .cell

theorem code_fn {C : PC} {j : Nat} {d : DefRec} {xs : List Str} {ds : List D} {r : D} {a : Addr} {o : Obj} {pm code doc : Value} (ho : C.base.get? a = some o) (hd : o.data = .func (Calls.docDef d.name d.params d.body d.scope pm code doc)) (hcd : C.base.CodeRec code d.name)
    (hbind : ∀ vs : List Value, vs.length = ds.length → bindArgs (Calls.docDef d.name d.params d.body d.scope pm code doc) ⟨vs, []⟩ = pure (xs.zip vs)) (hnd : xs.Nodup) (hlen : xs.length = ds.length) (hkind : okKind d.scope xs = true)
    (hco : d.scope.isCoroutine = false) (hgen : d.scope.isGenerator = false) (hk : d.scope.kind = .function)
    (body : ∀ env, FEnv env d.scope → ExsR C j env (xs.zip ds) [] d.body r)
    {A : Around} {s : Shared} {X : List Addr} {vs : List Value} {R : Result → Shared → Prop} (g : Good A (j + 1)) (hb : Sub C.base s.heap) (al : ∀ a ∈ X, ∃ o, s.heap.get? a = some o) (ra : RepAll X s.heap ds vs)
    (q : ∀ v s', Kp s s' → Rep X s'.heap r v → R (.ok (.ret v)) s') : codeAny (model C.prog C.w) A (.call (.ref a) ⟨vs, []⟩) R s := by
  have hkd : ∀ x ∈ xs, d.scope.names.lookup x = some .local ∨ d.scope.names.lookup x = some .cell := fun x hx => by
    have := List.all_eq_true.mp hkind x hx
    rcases Bool.or_eq_true_iff.mp this with q | q
    · exact .inl (by simpa using q)
    · exact .inr (by simpa using q)
  refine codeAny_call_cells (fd := Calls.docDef d.name d.params d.body d.scope pm code doc) (body := d.body) (binds := xs.zip vs) (by have := g.2.1; omega) (hb _ _ ho) hd (C.lim.keeps hb) (hcd.keeps hb) rfl (hbind vs ra.length) rfl ?_ ?_ hco hgen hk
  · intro p hp
    rcases hkd p.1 (zip_fst hp) with q | q
    · exact .inl q
    · exact .inr ⟨q, PySem.W.cellsFrom_some _ _ _ (.inl q)⟩
  · intro s₁ hc
    generalize henv : callEnvC (Calls.docDef d.name d.params d.body d.scope pm code doc) s.heap.objs.size a = env at hc ⊢
    have fe : FEnv env d.scope := ⟨by rw [← henv]; rfl, by rw [← henv]; rfl⟩
    have eo : EnvOk env := ⟨by rw [fe.scope]; exact hk, by rw [← henv]; rfl, by rw [← henv]; rfl⟩
    have fr : FR C s env X (xs.zip ds) [] s₁ := by
      refine ⟨[], ⟨_, _, hc⟩, ?_, by simp only [Owns], hb, al⟩
      intro x e hx
      obtain ⟨i, h1, h2⟩ := has_zip hx
      obtain ⟨w, hw, rw'⟩ := ra.get h2
      refine ⟨w, by simpa using rw'.up hc.toInCall.keep, ?_⟩
      rcases hkd x (List.mem_of_getElem? h1) with q | q
      · have hkx : env.kindOf x = some .local := gk_fun fe q
        exact .inl ⟨hkx, _, hc.toInCall.ns, bindL_at hnd h1 hw hkx⟩
      · have hkx : env.kindOf x = some .cell := gk_fun fe q
        obtain ⟨c, hcl⟩ := Option.isSome_iff_exists.mp (PySem.W.cellsFrom_some d.scope.names (env.locals + 1) [] (.inl q))
        have hcl' : env.cells.lookup x = some c := by rw [fe.cells]; exact hcl
        refine .inr ⟨hkx, c, hcl', ?_⟩
        have := hc.cell x c hcl'
        rwa [bindC_at hnd h1 hw (by rw [hkx]; decide)] at this
    have g' : Good (A.deeper env) j := ⟨g.1, by have := g.2.1; show A.depth + 1 + j < _; omega, by have := g.2.2; show A.units + 3 + 10 * j + 200 < _; omega⟩
    exact wpAny_mono (body env fe (A.deeper env) s s₁ X (fun f s' => ∃ v, f = .ret v ∧ Kp s s' ∧ Rep X s'.heap r v) g' eo fr fun w s' k1 r1 => ⟨w, rfl, k1, r1⟩) (fun f s' h => by obtain ⟨v, rfl, k1, r1⟩ := h; exact q v s' k1 r1) fun _ _ e => e.elim

theorem Ctr.intro {C : PC} {j : Nat} {d : DefRec} {xs : List Str} {ds : List D} {r : D} (hf : FnAt C d)
    (hbind : ∀ pm code doc, ∀ vs : List Value, vs.length = ds.length → bindArgs (Calls.docDef d.name d.params d.body d.scope pm code doc) ⟨vs, []⟩ = pure (xs.zip vs)) (hnd : xs.Nodup) (hlen : xs.length = ds.length) (hkind : okKind d.scope xs = true)
    (hco : d.scope.isCoroutine = false) (hgen : d.scope.isGenerator = false) (hk : d.scope.kind = .function)
    (body : ∀ env, FEnv env d.scope → ExsR C j env (xs.zip ds) [] d.body r) : Ctr C (j + 1) d.name ds r := by
  obtain ⟨a, o, pm, code, doc, h1, h2, h3, h4⟩ := hf.at_
  refine ⟨a, o, _, h1, h2, h3, fun A s X vs Q g hb al ra q => ?_⟩
  exact wpAny_call (code_fn h2 h3 h4 (hbind pm code doc) hnd hlen hkind hco hgen hk body g hb al ra q)

def noRec : DefRec := ⟨Str.ofString "", ⟨[], [], none, [], [], none, []⟩, [], ⟨.function, [], false, false, []⟩, ⟨0, 0, 0, 0⟩⟩
def fnRec (p : Program) (x : Str) : DefRec := ((recsOf p).find? fun d => d.name == x).getD noRec
theorem fnRec_mem {p : Program} {x : Str} (h : ((recsOf p).find? fun d => d.name == x).isSome = true) : fnRec p x ∈ recsOf p ∧ (fnRec p x).name = x := by
  obtain ⟨d, e⟩ := Option.isSome_iff_exists.mp h
  unfold fnRec
  rw [e]
  exact ⟨List.mem_of_find?_eq_some e, by simpa using List.find?_some e⟩
end Mine
end
section
open PySem PyProof.Rows
set_option linter.unusedVariables false
namespace Mine
-- forms for the derivation: what is sought comes first
section
variable {C : PC} {k : Nat} {env : Env} {X : List Addr} {l : List (Str × D)} {v v' v'' : Vals} {o o' o'' : Own}
theorem Ev.call' {f : Str} {p pos : Pos} {e : PySem.Expr} {rest : List PySem.Expr} {j : Nat} {ds : List D} {r : D} (ha : EvAll C k env X l (e :: rest) ds) (hc : Ctr C j f ds r) (hj : j ≤ k) (hk : env.kindOf f = some .globalImplicit)
    (hd : (f == ("__debug__" : Str)) = false) (he : starEach (e :: rest) env = (false, eval e env) :: starEach rest env) : Ev C k env X l (.Call (.Name f p) (e :: rest) [] pos) r := Ev.callF hc hj hk ha hd he
theorem Ev.callB' {x : Str} {p pos : Pos} {e : PySem.Expr} {rest : List PySem.Expr} {id : String} {ds : List D} {d : D} (ha : EvAll C k env X l (e :: rest) ds) (hb : Blt C x (.builtin id)) (ho : BOk C (.builtin id) ds d) (hk : env.kindOf x = some .globalImplicit)
    (hd : (x == ("__debug__" : Str)) = false) (he : starEach (e :: rest) env = (false, eval e env) :: starEach rest env) (hp : (backTo pos (starEach rest env)).any (·.1) = false) : Ev C k env X l (.Call (.Name x p) (e :: rest) [] pos) d := Ev.callB hb hk ha ho hd he hp
theorem Ev.callT' {x : Str} {p pos : Pos} {e : PySem.Expr} {rest : List PySem.Expr} {T : String} {ds : List D} {d : D} (ha : EvAll C k env X l (e :: rest) ds) (hb : Blt C x (.type T)) (ho : BOk C (.type T) ds d) (hk : env.kindOf x = some .globalImplicit)
    (hd : (x == ("__debug__" : Str)) = false) (he : starEach (e :: rest) env = (false, eval e env) :: starEach rest env) (hp : (backTo pos (starEach rest env)).any (·.1) = false) : Ev C k env X l (.Call (.Name x p) (e :: rest) [] pos) d := Ev.callT hb hk ha ho hd he hp
theorem Ex.ifT' {t : PySem.Expr} {a b : List Stmt} {pos : Pos} {c : Bool} (h : ∀ X, IsT C k env X v t c) (hc : c = true) (ha : Exs C k env v o a v' o') : Ex C k env v o (.If t a b pos) v' o' := Ex.ifT (hc ▸ h) ha
theorem Ex.ifF' {t : PySem.Expr} {a b : List Stmt} {pos : Pos} {c : Bool} (h : ∀ X, IsT C k env X v t c) (hc : c = false) (ha : Exs C k env v o b v' o') : Ex C k env v o (.If t a b pos) v' o' := Ex.ifF (hc ▸ h) ha
theorem ExR.ifT' {t : PySem.Expr} {a b : List Stmt} {pos : Pos} {d : D} {c : Bool} (h : ∀ X, IsT C k env X v t c) (hc : c = true) (ha : ExsR C k env v o a d) : ExR C k env v o (.If t a b pos) d := ExR.ifT (hc ▸ h) ha
theorem ExR.ifF' {t : PySem.Expr} {a b : List Stmt} {pos : Pos} {d : D} {c : Bool} (h : ∀ X, IsT C k env X v t c) (hc : c = false) (ha : ExsR C k env v o b d) : ExR C k env v o (.If t a b pos) d := ExR.ifF (hc ▸ h) ha
theorem Ev.ifT' {t a b : PySem.Expr} {pos : Pos} {d : D} {c : Bool} (h : IsT C k env X l t c) (hc : c = true) (ha : Ev C k env X l a d) : Ev C k env X l (.IfExp t a b pos) d := Ev.ifT (hc ▸ h) ha
theorem Ev.ifF' {t a b : PySem.Expr} {pos : Pos} {d : D} {c : Bool} (h : IsT C k env X l t c) (hc : c = false) (ha : Ev C k env X l b d) : Ev C k env X l (.IfExp t a b pos) d := Ev.ifF (hc ▸ h) ha
theorem sto_fun {sc : Scope} (h : FEnv env sc) {x : Str} (hd : (sc.names.lookup x == some .local || sc.names.lookup x == some .cell) = true) : Sto env x := by
  rcases Bool.or_eq_true_iff.mp hd with q | q
  · exact .inl (gk_fun h (by simpa using q))
  · exact .inr ⟨gk_fun h (by simpa using q), by rw [h.cells]; exact PySem.W.cellsFrom_some _ _ _ (.inl (by simpa using q))⟩
theorem noOwn {x : Str} : ∀ p ∈ ([] : Own), p.1 ≠ x := fun _ h => nomatch h
theorem Ev.cast {e : PySem.Expr} {d d' : D} (h : Ev C k env X l e d) (hd : d = d') : Ev C k env X l e d' := hd ▸ h
theorem ExR.cast {st : Stmt} {d d' : D} (h : ExR C k env v o st d) (hd : d = d') : ExR C k env v o st d' := hd ▸ h
theorem ExsR.cast {st : List Stmt} {d d' : D} (h : ExsR C k env v o st d) (hd : d = d') : ExsR C k env v o st d' := hd ▸ h
end
def recOf : Stmt → DefRec
  | .FunctionDef n a b _ _ _ sc _ _ pos => ⟨n, a, b, sc, pos⟩
  | _ => noRec
def recAt (p : Program) (i : Nat) : DefRec := recOf (p.main.body.getD i (.Pass ⟨0, 0, 0, 0⟩))
theorem Ctr.intro' {C : PC} {P : Program} {j : Nat} {d : DefRec} {f : Str} {xs : List Str} {ds : List D} {r : D} (vals : Vals) (hfn : ∀ d ∈ recsOf P, FnAt C d) (i : Nat) (hi : (recsOf P)[i]? = some d) (hf : d.name = f)
    (hbind : ∀ pm code doc, ∀ vs : List Value, vs.length = ds.length → bindArgs (Calls.docDef d.name d.params d.body d.scope pm code doc) ⟨vs, []⟩ = pure (xs.zip vs)) (hnd : xs.Nodup) (hlen : xs.length = ds.length) (hkind : okKind d.scope xs = true)
    (hco : d.scope.isCoroutine = false) (hgen : d.scope.isGenerator = false) (hk : d.scope.kind = .function) (hv : xs.zip ds = vals)
    (body : ∀ env, FEnv env d.scope → ExsR C j env vals [] d.body r) : Ctr C (j + 1) f ds r := by
  subst hv; subst hf
  exact Ctr.intro (hfn _ (List.mem_of_getElem? hi)) hbind hnd hlen hkind hco hgen hk body
structure Ctx (C : PC) (P : Program) : Prop where
  fn : ∀ d ∈ recsOf P, FnAt C d
  len : Blt C (Str.ofString "len") (.builtin "len")
  max : Blt C (Str.ofString "max") (.builtin "max")
  min : Blt C (Str.ofString "min") (.builtin "min")
  sum : Blt C (Str.ofString "sum") (.builtin "sum")
  sorted : Blt C (Str.ofString "sorted") (.builtin "sorted")
  int : Blt C (Str.ofString "int") (.type "int")
  range : Blt C (Str.ofString "range") (.type "range")
  enumerate : Blt C (Str.ofString "enumerate") (.type "enumerate")
  third : ∃ t, C.mg (Str.ofString "ONE_THIRD") = some (.float 4599676419421066581 t)
  sixth : ∃ t, C.mg (Str.ofString "ONE_SIXTH") = some (.float 4595172819793696085 t)
  two3 : ∃ t, C.mg (Str.ofString "TWO_THIRD") = some (.float 4604180019048437077 t)
end Mine
end
section
open PySem PyProof.Rows
set_option linter.unusedVariables false
namespace Mine

def singleBit (n : Int) : Bool := if n == 0 then false else Builtin.bitAnd n (n - 1) == 0
-- floats of the text
abbrev c0 : UInt64 := 0x0000000000000000
abbrev cHalf : UInt64 := 0x3fe0000000000000
abbrev c1 : UInt64 := 0x3ff0000000000000
abbrev c2 : UInt64 := 0x4000000000000000
abbrev c4 : UInt64 := 0x4010000000000000
abbrev c6 : UInt64 := 0x4018000000000000
abbrev cThird : UInt64 := 4599676419421066581
abbrev cSixth : UInt64 := 4595172819793696085
abbrev cTwo3 : UInt64 := 4604180019048437077
def maxF (r g b : UInt64) : UInt64 := fmax (fmax r g) b
def minF (r g b : UInt64) : UInt64 := fmin (fmin r g) b
def rngF (r g b : UInt64) : UInt64 := Float64.sub (maxF r g b) (minF r g b)
def chF (r g b x : UInt64) : UInt64 := Float64.div (Float64.sub (maxF r g b) x) (rngF r g b)
def greyF (r g b : UInt64) : Bool := Float64.cmp (minF r g b) (maxF r g b) == some .eq
def rawHue (r g b : UInt64) : UInt64 :=
  if Float64.cmp r (maxF r g b) == some .eq then Float64.sub (chF r g b b) (chF r g b g)
  else if Float64.cmp g (maxF r g b) == some .eq then Float64.sub (Float64.add c2 (chF r g b r)) (chF r g b b)
  else Float64.sub (Float64.add c4 (chF r g b g)) (chF r g b r)
def modF (x : UInt64) : UInt64 := (Float64.divmod x c1).snd
def hueF (r g b : UInt64) : UInt64 := modF (Float64.div (rawHue r g b) c6)
def lightF (r g b : UInt64) : UInt64 := Float64.div (Float64.add (maxF r g b) (minF r g b)) c2
def lowF (l : UInt64) : Bool := Float64.cmp l cHalf == some .lt || Float64.cmp l cHalf == some .eq
def denF (r g b : UInt64) : UInt64 := if lowF (lightF r g b) then Float64.add (maxF r g b) (minF r g b) else Float64.sub (Float64.sub c2 (maxF r g b)) (minF r g b)
def satF (r g b : UInt64) : UInt64 := Float64.div (rngF r g b) (denF r g b)

def vF (m1 m2 x : UInt64) : UInt64 :=
  if Float64.cmp (modF x) cSixth == some .lt then Float64.add m1 (Float64.mul (Float64.mul (Float64.sub m2 m1) (modF x)) c6)
  else if Float64.cmp (modF x) cHalf == some .lt then m2
  else if Float64.cmp (modF x) cTwo3 == some .lt then Float64.add m1 (Float64.mul (Float64.mul (Float64.sub m2 m1) (Float64.sub cTwo3 (modF x))) c6)
  else m1
def m2F (l s : UInt64) : UInt64 := if lowF l then Float64.mul l (Float64.add c1 s) else Float64.sub (Float64.add l s) (Float64.mul l s)
def m1F (l s : UInt64) : UInt64 := Float64.sub (Float64.mul c2 l) (m2F l s)
def toI (x : UInt64) : Int := match Float64.decode x with
  | .fin s m e => Float64.truncOf s m e
  | _ => 0
theorem BOk.toI {C : PC} {x : UInt64} (h : Float64.isFinite x = true) : BOk C (.type "int") [.flt x] (.int (toI x)) := by
  rcases Flt.three x with ⟨h1, h2⟩ | ⟨s, h1, h2⟩ | ⟨s, m, e, h1, h2⟩
  · unfold Float64.isFinite at h; rw [h1] at h; cases h
  · unfold Float64.isFinite at h; rw [h1] at h; cases h
  · have : Mine.toI x = Float64.truncOf s m e := by unfold Mine.toI; rw [h1]
    rw [this]; exact BOk.intF h1
def satV (r g b : UInt64) : UInt64 := Float64.div (rngF r g b) (maxF r g b)
def secF (h : UInt64) : Int := toI (Float64.mul h c6)
def fracF (h : UInt64) : UInt64 := Float64.sub (Float64.mul h c6) (Float64.ofInt (secF h))
def pF (s v : UInt64) : UInt64 := Float64.mul v (Float64.sub c1 s)
def qF (h s v : UInt64) : UInt64 := Float64.mul v (Float64.sub c1 (Float64.mul s (fracF h)))
def tF (h s v : UInt64) : UInt64 := Float64.mul v (Float64.sub c1 (Float64.mul s (Float64.sub c1 (fracF h))))
def hsvOut (j : Int) (h s v : UInt64) : List D :=
  if j = 0 then [.flt v, .flt (tF h s v), .flt (pF s v)] else if j = 1 then [.flt (qF h s v), .flt v, .flt (pF s v)] else if j = 2 then [.flt (pF s v), .flt v, .flt (tF h s v)]
  else if j = 3 then [.flt (pF s v), .flt (qF h s v), .flt v] else if j = 4 then [.flt (tF h s v), .flt (pF s v), .flt v] else [.flt v, .flt (pF s v), .flt (qF h s v)]
theorem Ev.gflt' {C : PC} {k : Nat} {env : Env} {X : List Addr} {l : List (Str × D)} {x : Str} {pos : Pos} {f : UInt64} (hx : ∃ t, C.mg x = some (.float f t)) (hk : env.kindOf x = some .globalImplicit) (hd : (x == ("__debug__" : Str)) = false) :
    Ev C k env X l (.Name x pos) (.flt f) := let ⟨_, e⟩ := hx; Ev.gflt e hk hd
end Mine
end
section
open PySem PySem.Float64
set_option linter.unusedVariables false
set_option maxRecDepth 10000
namespace Mine

def S : Nat := 2 ^ 1074
def U : Nat := 2 ^ 1034
theorem S_eq : S = U * 2 ^ 40 := by unfold S U; decide +kernel
theorem U_pos : 0 < U := Nat.two_pow_pos 1034
theorem S_pos : 0 < S := Nat.two_pow_pos 1074

def Fi (x : UInt64) : Prop := ∃ a m e, decode x = .fin a m e
theorem Fi.fin {x : UInt64} (h : Fi x) : Float64.isFinite x = true := by obtain ⟨a, m, e, h⟩ := h; unfold Float64.isFinite; rw [h]

theorem V_all (k : Nat) : ∀ q : Nat, q ≤ 2 ^ 53 → ∃ t, V t = q * 2 ^ k := by
  induction k with
  | zero => exact fun q h => ⟨0 * 2 ^ 52 + q, V_at h (.inr rfl)⟩
  | succ k ih =>
    intro q h
    by_cases h2 : 2 ^ 52 ≤ q
    · exact ⟨(k + 1) * 2 ^ 52 + q, V_at h (.inl h2)⟩
    · obtain ⟨t, ht⟩ := ih (q * 2) (by omega)
      refine ⟨t, ?_⟩
      rw [ht, Nat.pow_succ, Nat.mul_assoc, Nat.mul_comm 2]

theorem right_fin {r : UInt64} {neg : Bool} {W Dd : Nat} (h : Right r neg W Dd) (hD : 0 < Dd) (hW : W ≤ Dd * 2 ^ 1086) :
    ∃ t, t < infMag ∧ Fi r ∧ val r = sgn neg (V t) ∧ ∀ t', dist W (Dd * V t) ≤ dist W (Dd * V t') := by
  obtain ⟨t, rfl, ht, hinf, hn⟩ := h
  have hlt : t < infMag := by
    rcases Nat.lt_or_ge t infMag with h | h
    · exact h
    · have e : t = infMag := Nat.le_antisymm ht h
      have h1 := hinf.mp e
      have h2 : (2 ^ 54 - 1) * 2 ^ 2045 > 2 * 2 ^ 1086 := by decide +kernel
      have h3 : Dd * ((2 ^ 54 - 1) * 2 ^ 2045) > Dd * (2 * 2 ^ 1086) := Nat.mul_lt_mul_of_pos_left h2 hD
      have h4 : Dd * (2 * 2 ^ 1086) = 2 * (Dd * 2 ^ 1086) := by rw [Nat.mul_left_comm]
      generalize Dd * ((2 ^ 54 - 1) * 2 ^ 2045) = A at *
      generalize Dd * 2 ^ 1086 = B at *
      omega
  obtain ⟨m, e, hd, _⟩ := decode_pack neg hlt
  exact ⟨t, hlt, ⟨neg, m, e, hd⟩, val_pack neg hlt, fun t' => (hn hlt t').1⟩

theorem right_near {r : UInt64} {neg : Bool} {W Dd : Nat} (h : Right r neg W Dd) (hD : 0 < Dd) (hW : W ≤ Dd * 2 ^ 1086) :
    ∃ v : Nat, Fi r ∧ val r = sgn neg v ∧ W ≤ Dd * v + Dd * U ∧ Dd * v ≤ W + Dd * U := by
  obtain ⟨t, _, hf, hv, hn⟩ := right_fin h hD hW
  refine ⟨V t, hf, hv, ?_⟩
  have hq : W / (Dd * U) ≤ 2 ^ 52 := by
    have : W < (2 ^ 52 + 1) * (Dd * U) := by
      have e : Dd * 2 ^ 1086 = 2 ^ 52 * (Dd * U) := by rw [show (2 : Nat) ^ 1086 = 2 ^ 52 * U by unfold U; decide +kernel]; rw [Nat.mul_left_comm]
      have hp : 0 < Dd * U := Nat.mul_pos hD U_pos
      rw [e] at hW
      rw [Nat.add_mul]
      generalize 2 ^ 52 * (Dd * U) = B at *
      omega
    have := (Nat.div_lt_iff_lt_mul (Nat.mul_pos hD U_pos)).mpr this
    omega
  obtain ⟨t', ht'⟩ := V_all 1034 (W / (Dd * U)) (by omega)
  have h1 := hn t'
  rw [ht'] at h1
  have hdm := Nat.div_add_mod W (Dd * U)
  have hml := Nat.mod_lt W (Nat.mul_pos hD U_pos)
  have e : Dd * (W / (Dd * U) * 2 ^ 1034) = Dd * U * (W / (Dd * U)) := by
    show Dd * (W / (Dd * U) * U) = _
    rw [Nat.mul_comm (W / (Dd * U)) U, Nat.mul_assoc]
  rw [e] at h1
  unfold dist at h1
  generalize Dd * U * (W / (Dd * U)) = Z at *
  generalize W % (Dd * U) = Z2 at *
  generalize Dd * V t = Z3 at *
  generalize Dd * U = Z4 at *
  omega

theorem right_exact {r : UInt64} {neg : Bool} {W Dd : Nat} (h : Right r neg W Dd) (hD : 0 < Dd) (hW : W ≤ Dd * 2 ^ 1086) {q k : Nat} (hq : q ≤ 2 ^ 53) (he : W = Dd * (q * 2 ^ k)) : Fi r ∧ val r = sgn neg (q * 2 ^ k) := by
  obtain ⟨t, _, hf, hv, hn⟩ := right_fin h hD hW
  obtain ⟨t', ht'⟩ := V_all k q hq
  have h1 := hn t'
  rw [ht', ← he] at h1
  unfold dist at h1
  refine ⟨hf, ?_⟩
  rw [hv]
  congr 1
  have : Dd * V t = W := by
    generalize Dd * V t = Z at *
    omega
  rw [he] at this
  exact Nat.eq_of_mul_eq_mul_left hD this

-- the value as a rational
def Rv (x : UInt64) : Rat := (val x : Rat) / ((S : Nat) : Rat)
def e0 : Rat := 1 / 1099511627776

theorem SR_pos : (0 : Rat) < ((S : Nat) : Rat) := by
  have := S_pos
  exact_mod_cast this
theorem UR_eq : ((U : Nat) : Rat) = e0 * ((S : Nat) : Rat) := by
  have h : ((S : Nat) : Rat) = ((U : Nat) : Rat) * 1099511627776 := by rw [S_eq]; push_cast; grind
  unfold e0
  grind
theorem Rv_val (x : UInt64) : (val x : Rat) = Rv x * ((S : Nat) : Rat) := by
  unfold Rv
  have := SR_pos
  grind
end Mine
end
section
open PySem PySem.Float64
set_option linter.unusedVariables false
set_option maxRecDepth 10000
namespace Mine

theorem cast_le {a b : Int} (h : a ≤ b) : (a : Rat) ≤ (b : Rat) := Rat.intCast_le_intCast.mpr h
theorem cast_of_le {a b : Int} (h : (a : Rat) ≤ (b : Rat)) : a ≤ b := Rat.intCast_le_intCast.mp h
theorem cS : (((S : Nat) : Int) : Rat) = ((S : Nat) : Rat) := Rat.intCast_natCast S
theorem cU : (((U : Nat) : Int) : Rat) = e0 * ((S : Nat) : Rat) := by rw [← UR_eq]; exact Rat.intCast_natCast U
theorem div_S {a b : Rat} (h : a * ((S : Nat) : Rat) ≤ b * ((S : Nat) : Rat)) : a ≤ b := Rat.le_of_mul_le_mul_right h SR_pos

/-- from the numbers over S to the values -/
theorem near_of {x : UInt64} {A : Int} {q : Rat} (hA : (A : Rat) = q * ((S : Nat) : Rat)) (h1 : A - (U : Nat) ≤ val x) (h2 : val x ≤ A + (U : Nat)) : q - e0 ≤ Rv x ∧ Rv x ≤ q + e0 := by
  have h1' := cast_le h1
  have h2' := cast_le h2
  rw [Rat.intCast_sub, hA, cU, Rv_val] at h1'
  rw [Rat.intCast_add, hA, cU, Rv_val] at h2'
  exact ⟨div_S (by grind), div_S (by grind)⟩
theorem abs_of {A : Int} {q : Rat} (hA : (A : Rat) = q * ((S : Nat) : Rat)) (h1 : -4096 ≤ q) (h2 : q ≤ 4096) : A.natAbs ≤ 2 ^ 1086 := by
  have e : (2 : Nat) ^ 1086 = 4096 * S := by unfold S; decide +kernel
  rw [e]
  have s1 : (A : Rat) ≤ ((4096 * ((S : Nat) : Int) : Int) : Rat) := by
    rw [hA, Rat.intCast_mul, cS]
    have : q * ((S : Nat) : Rat) ≤ 4096 * ((S : Nat) : Rat) := Rat.mul_le_mul_of_nonneg_right h2 (Rat.le_of_lt SR_pos)
    exact this
  have s2 : ((-(4096 * ((S : Nat) : Int)) : Int) : Rat) ≤ (A : Rat) := by
    rw [hA, Rat.intCast_neg, Rat.intCast_mul, cS]
    have : (-4096) * ((S : Nat) : Rat) ≤ q * ((S : Nat) : Rat) := Rat.mul_le_mul_of_nonneg_right h1 (Rat.le_of_lt SR_pos)
    have e2 : ((4096 : Int) : Rat) = 4096 := rfl
    rw [e2]
    grind
  have t1 := cast_of_le s1
  have t2 := cast_of_le s2
  omega

theorem fi_zero (b : Bool) : Fi (zero b) ∧ val (zero b) = 0 := by
  have h : (0 : Nat) < infMag := by decide
  obtain ⟨m, e, hd, _⟩ := decode_pack b h
  refine ⟨⟨b, m, e, hd⟩, ?_⟩
  show val (pack b 0) = 0
  rw [val_pack b h]
  cases b <;> rfl

theorem add_near {x y : UInt64} (hx : Fi x) (hy : Fi y) (h1 : -4096 ≤ Rv x + Rv y) (h2 : Rv x + Rv y ≤ 4096) : Fi (add x y) ∧ Rv x + Rv y - e0 ≤ Rv (add x y) ∧ Rv (add x y) ≤ Rv x + Rv y + e0 := by
  obtain ⟨a, m, e, dx⟩ := hx
  obtain ⟨b, k, f, dy⟩ := hy
  obtain ⟨z0, z1⟩ := add_right dx dy
  have hA : ((val x + val y : Int) : Rat) = (Rv x + Rv y) * ((S : Nat) : Rat) := by rw [Rat.intCast_add, Rv_val, Rv_val]; grind
  have hle := abs_of hA h1 h2
  by_cases hz : val x + val y = 0
  · rw [z0 hz]
    obtain ⟨q1, q2⟩ := fi_zero (a && b)
    exact ⟨q1, near_of hA (by omega) (by omega)⟩
  · obtain ⟨v, hf, hv, n1, n2⟩ := right_near (z1 hz) (by omega) (by rw [Nat.one_mul]; exact hle)
    refine ⟨hf, near_of hA ?_ ?_⟩
    · rw [hv]; unfold sgn; split <;> rename_i h <;> simp at h <;> omega
    · rw [hv]; unfold sgn; split <;> rename_i h <;> simp at h <;> omega
theorem neg_fi {y : UInt64} (hy : Fi y) : Fi (neg y) ∧ Rv (neg y) = - Rv y := by
  obtain ⟨b, k, f, dy⟩ := hy
  refine ⟨⟨_, _, _, neg_decode dy⟩, ?_⟩
  unfold Rv
  rw [neg_val dy, Rat.intCast_neg]
  have := SR_pos
  grind
theorem sub_near {x y : UInt64} (hx : Fi x) (hy : Fi y) (h1 : -4096 ≤ Rv x - Rv y) (h2 : Rv x - Rv y ≤ 4096) : Fi (sub x y) ∧ Rv x - Rv y - e0 ≤ Rv (sub x y) ∧ Rv (sub x y) ≤ Rv x - Rv y + e0 := by
  obtain ⟨n1, n2⟩ := neg_fi hy
  have := add_near hx n1 (by grind) (by grind)
  unfold sub
  rw [n2] at this
  grind
theorem sgn_val {x : UInt64} {a : Bool} {m : Nat} {e : Int} (h : decode x = .fin a m e) : val x = sgn a (val x).natAbs := by
  rw [val_natAbs h]; exact val_eq h
theorem mul_near {x y : UInt64} (hx : Fi x) (hy : Fi y) (h1 : -4096 ≤ Rv x * Rv y) (h2 : Rv x * Rv y ≤ 4096) : Fi (mul x y) ∧ Rv x * Rv y - e0 ≤ Rv (mul x y) ∧ Rv (mul x y) ≤ Rv x * Rv y + e0 := by
  obtain ⟨a, m, e, dx⟩ := hx
  obtain ⟨b, k, f, dy⟩ := hy
  have hr : Right (mul x y) (a != b) ((val x).natAbs * (val y).natAbs) S := mul_right dx dy
  have hA : ((val x * val y : Int) : Rat) = (Rv x * Rv y) * ((S : Nat) : Rat) * ((S : Nat) : Rat) := by rw [Rat.intCast_mul, Rv_val, Rv_val]; grind
  have hb : (val x).natAbs * (val y).natAbs ≤ S * 2 ^ 1086 := by
    have e : (2 : Nat) ^ 1086 = 4096 * S := by unfold S; decide +kernel
    rw [e, ← Int.natAbs_mul]
    have p : ((4096 * ((S : Nat) : Int) * ((S : Nat) : Int) : Int) : Rat) = 4096 * ((S : Nat) : Rat) * ((S : Nat) : Rat) := by rw [Rat.intCast_mul, Rat.intCast_mul, cS]; rfl
    have s1 : ((val x * val y : Int) : Rat) ≤ ((4096 * ((S : Nat) : Int) * ((S : Nat) : Int) : Int) : Rat) := by
      rw [hA, p]
      exact Rat.mul_le_mul_of_nonneg_right (Rat.mul_le_mul_of_nonneg_right h2 (Rat.le_of_lt SR_pos)) (Rat.le_of_lt SR_pos)
    have s2 : ((-(4096 * ((S : Nat) : Int) * ((S : Nat) : Int)) : Int) : Rat) ≤ ((val x * val y : Int) : Rat) := by
      rw [hA, Rat.intCast_neg, p]
      have := Rat.mul_le_mul_of_nonneg_right (Rat.mul_le_mul_of_nonneg_right h1 (Rat.le_of_lt SR_pos)) (Rat.le_of_lt SR_pos)
      grind
    have t1 := cast_of_le s1
    have t2 := cast_of_le s2
    have e3 : ((S * (4096 * S) : Nat) : Int) = 4096 * ((S : Nat) : Int) * ((S : Nat) : Int) := by rw [Int.natCast_mul, Int.natCast_mul]; rw [Int.mul_comm]; rfl
    omega
  obtain ⟨v, hf, hv, n1, n2⟩ := right_near hr S_pos hb
  refine ⟨hf, ?_⟩
  have key : val x * val y - (S : Nat) * (U : Nat) ≤ (S : Nat) * val (mul x y) ∧ (S : Nat) * val (mul x y) ≤ val x * val y + (S : Nat) * (U : Nat) := by
    have hp : val x * val y = sgn (a != b) ((val x).natAbs * (val y).natAbs) := by
      conv => lhs; rw [sgn_val dx, sgn_val dy]
      unfold sgn; cases a <;> cases b <;> simp [Int.mul_neg, Int.neg_mul, Int.neg_neg]
    have n1' : (((val x).natAbs * (val y).natAbs : Nat) : Int) ≤ (S : Nat) * (v : Int) + (S : Nat) * (U : Nat) := by exact_mod_cast n1
    have n2' : ((S : Nat) : Int) * (v : Int) ≤ (((val x).natAbs * (val y).natAbs : Nat) : Int) + (S : Nat) * (U : Nat) := by exact_mod_cast n2
    rw [hp, hv]
    generalize (((val x).natAbs * (val y).natAbs : Nat)) = Z at *
    unfold sgn
    split
    · rw [Int.mul_neg]; omega
    · omega
  have k1 := cast_le key.1
  have k2 := cast_le key.2
  rw [Rat.intCast_sub, hA, Rat.intCast_mul, Rat.intCast_mul, cS, cU, Rv_val] at k1
  rw [Rat.intCast_add, hA, Rat.intCast_mul, Rat.intCast_mul, cS, cU, Rv_val] at k2
  exact ⟨div_S (div_S (by grind)), div_S (div_S (by grind))⟩

theorem fin1 {Y s v' : Rat} (hyp : 0 < Y) (c : Rat) (w1 : c * Y * s ≤ Y * v' + Y * (e0 * s)) (w2 : Y * v' ≤ c * Y * s + Y * (e0 * s)) : (c - e0) * s ≤ v' ∧ v' ≤ (c + e0) * s := by
  constructor
  · have : (c - e0) * s * Y ≤ v' * Y := by grind
    exact Rat.le_of_mul_le_mul_right this hyp
  · have : v' * Y ≤ (c + e0) * s * Y := by grind
    exact Rat.le_of_mul_le_mul_right this hyp
theorem fin3 {q r s v' : Rat} (hS : 0 < s) (rS : -v' = r * s) (f1 : (-q - e0) * s ≤ v') (f2 : v' ≤ (-q + e0) * s) : q - e0 ≤ r ∧ r ≤ q + e0 := by
  have e1 : v' = -(r * s) := by grind
  rw [e1] at f1 f2
  constructor
  · have : (q - e0) * s ≤ r * s := by grind
    exact Rat.le_of_mul_le_mul_right this hS
  · have : r * s ≤ (q + e0) * s := by grind
    exact Rat.le_of_mul_le_mul_right this hS

/-- the quotient, told by its product -/
theorem div_near {x y : UInt64} {q : Rat} (hx : Fi x) (hy : Fi y) (hz : Rv y ≠ 0) (hq : q * Rv y = Rv x) (h1 : -4096 ≤ q) (h2 : q ≤ 4096) : Fi (div x y) ∧ q - e0 ≤ Rv (div x y) ∧ Rv (div x y) ≤ q + e0 := by
  obtain ⟨a, m, e, dx⟩ := hx
  obtain ⟨b, k, f, dy⟩ := hy
  have hk : k ≠ 0 := by
    rintro rfl
    apply hz
    unfold Rv
    rw [val_eq dy]
    have : sgn b (0 * 2 ^ (f + 1074).toNat) = 0 := by unfold sgn; cases b <;> simp
    rw [this]
    show (0 : Rat) / _ = 0
    have := SR_pos
    grind
  have hr : Right (div x y) (a != b) ((val x).natAbs * S) (val y).natAbs := div_right dx dy hk
  have hy0 : 0 < (val y).natAbs := by
    rcases Nat.eq_zero_or_pos (val y).natAbs with h | h
    · exfalso; apply hz; unfold Rv; rw [Int.natAbs_eq_zero.mp h]; show (0 : Rat) / _ = 0; have := SR_pos; grind
    · exact h
  -- |val x| * S <= |val y| * 4096 S
  have sx : ((val x : Int) : Rat) = q * ((val y : Int) : Rat) := by rw [Rv_val, Rv_val, ← hq]; grind
  have hxy : (val x).natAbs ≤ 4096 * (val y).natAbs := by
    rcases Int.le_total 0 (val y) with hs | hs
    · have p0 : (0 : Rat) ≤ ((val y : Int) : Rat) := by have := cast_le hs; exact this
      have u1 := Rat.mul_le_mul_of_nonneg_right h1 p0
      have u2 := Rat.mul_le_mul_of_nonneg_right h2 p0
      have w1 : ((-(4096 * val y) : Int) : Rat) ≤ ((val x : Int) : Rat) := by rw [Rat.intCast_neg, Rat.intCast_mul, sx]; have e2 : ((4096 : Int) : Rat) = 4096 := rfl; rw [e2]; grind
      have w2 : ((val x : Int) : Rat) ≤ ((4096 * val y : Int) : Rat) := by rw [Rat.intCast_mul, sx]; exact u2
      have t1 := cast_of_le w1
      have t2 := cast_of_le w2
      omega
    · have p0 : (0 : Rat) ≤ -((val y : Int) : Rat) := by have := cast_le hs; have e3 : ((0 : Int) : Rat) = 0 := rfl; rw [e3] at this; grind
      have u1 := Rat.mul_le_mul_of_nonneg_right h1 p0
      have u2 := Rat.mul_le_mul_of_nonneg_right h2 p0
      have w1 : ((4096 * val y : Int) : Rat) ≤ ((val x : Int) : Rat) := by rw [Rat.intCast_mul, sx]; have e2 : ((4096 : Int) : Rat) = 4096 := rfl; rw [e2]; grind
      have w2 : ((val x : Int) : Rat) ≤ ((-(4096 * val y) : Int) : Rat) := by rw [Rat.intCast_neg, Rat.intCast_mul, sx]; have e2 : ((4096 : Int) : Rat) = 4096 := rfl; rw [e2]; grind
      have t1 := cast_of_le w1
      have t2 := cast_of_le w2
      omega
  have hb : (val x).natAbs * S ≤ (val y).natAbs * 2 ^ 1086 := by
    have e : (2 : Nat) ^ 1086 = 4096 * S := by unfold S; decide +kernel
    rw [e]
    have := Nat.mul_le_mul_right S hxy
    rw [Nat.mul_left_comm, ← Nat.mul_assoc]
    exact this
  obtain ⟨v, hf, hv, n1, n2⟩ := right_near hr hy0 hb
  refine ⟨hf, ?_⟩
  -- in rationals: |x| S <= |y| v + |y| U
  have hyp : (0 : Rat) < (((val y).natAbs : Nat) : Rat) := by exact_mod_cast hy0
  have xa : (((val x).natAbs : Nat) : Rat) = (if (a != b) = true then -q else q) * (((val y).natAbs : Nat) : Rat) := by
    have c1 : ((sgn a (val x).natAbs : Int) : Rat) = q * ((sgn b (val y).natAbs : Int) : Rat) := by rw [← sgn_val dx, ← sgn_val dy]; exact sx
    unfold sgn at c1
    cases a <;> cases b <;> simp only [Bool.false_eq_true, if_true, if_false, Rat.intCast_neg, Rat.intCast_natCast, bne_self_eq_false, Bool.true_bne, Bool.false_bne, Bool.not_false, Bool.not_true] at c1 ⊢ <;> grind
  have rv : (val (div x y) : Rat) = (if (a != b) = true then -((v : Nat) : Rat) else ((v : Nat) : Rat)) := by
    rw [hv]; unfold sgn
    cases (a != b) <;> simp [Rat.intCast_neg, Rat.intCast_natCast]
  have n1' : (((val x).natAbs : Nat) : Rat) * ((S : Nat) : Rat) ≤ (((val y).natAbs : Nat) : Rat) * ((v : Nat) : Rat) + (((val y).natAbs : Nat) : Rat) * ((U : Nat) : Rat) := by exact_mod_cast n1
  have n2' : (((val y).natAbs : Nat) : Rat) * ((v : Nat) : Rat) ≤ (((val x).natAbs : Nat) : Rat) * ((S : Nat) : Rat) + (((val y).natAbs : Nat) : Rat) * ((U : Nat) : Rat) := by exact_mod_cast n2
  rw [xa, UR_eq] at n1' n2'
  have rS := Rv_val (div x y)
  rw [rv] at rS
  generalize (((val y).natAbs : Nat) : Rat) = Y at *
  generalize ((v : Nat) : Rat) = v' at *
  generalize Rv (div x y) = r at *
  have hS := SR_pos
  generalize ((S : Nat) : Rat) = s at *
  have fin2 := fin1 hyp _ n1' n2'
  clear n1' n2' xa rv
  cases hab : (a != b)
  · rw [hab] at fin2 rS
    simp only [Bool.false_eq_true, if_false] at fin2 rS
    rw [rS] at fin2
    exact ⟨Rat.le_of_mul_le_mul_right fin2.1 hS, Rat.le_of_mul_le_mul_right fin2.2 hS⟩
  · rw [hab] at fin2 rS
    simp only [if_true] at fin2 rS
    exact fin3 hS rS fin2.1 fin2.2
end Mine
end
section
open PySem PySem.Float64
set_option linter.unusedVariables false
set_option maxRecDepth 10000
namespace Mine

def Near (x : UInt64) (r e : Rat) : Prop := Fi x ∧ r - e ≤ Rv x ∧ Rv x ≤ r + e
theorem Near.mono {x : UInt64} {r e e' : Rat} (h : Near x r e) (he : e ≤ e') : Near x r e' := ⟨h.1, by have := h.2; grind, by have := h.2; grind⟩
theorem Near.shift {x : UInt64} {r e r' e' : Rat} (h : Near x r e) (h1 : r' - e' ≤ r - e) (h2 : r + e ≤ r' + e') : Near x r' e' := ⟨h.1, by have := h.2; grind, by have := h.2; grind⟩
theorem Near.rfl' {x : UInt64} (h : Fi x) : Near x (Rv x) 0 := ⟨h, by grind, by grind⟩
theorem Near.add {x y : UInt64} {r e s d : Rat} (hx : Near x r e) (hy : Near y s d) (he : e ≤ 1) (hd : d ≤ 1) (h1 : -2000 ≤ r + s) (h2 : r + s ≤ 2000) : Near (Float64.add x y) (r + s) (e + d + e0) := by
  obtain ⟨fx, x1, x2⟩ := hx; obtain ⟨fy, y1, y2⟩ := hy
  have := add_near fx fy (by grind) (by grind)
  exact ⟨this.1, by have := this.2; grind, by have := this.2; grind⟩
theorem Near.sub {x y : UInt64} {r e s d : Rat} (hx : Near x r e) (hy : Near y s d) (he : e ≤ 1) (hd : d ≤ 1) (h1 : -2000 ≤ r - s) (h2 : r - s ≤ 2000) : Near (Float64.sub x y) (r - s) (e + d + e0) := by
  obtain ⟨fx, x1, x2⟩ := hx; obtain ⟨fy, y1, y2⟩ := hy
  have := sub_near fx fy (by grind) (by grind)
  exact ⟨this.1, by have := this.2; grind, by have := this.2; grind⟩
/-- a product of two bounded ones -/
theorem mul_bd {a b A B : Rat} (ha1 : -A ≤ a) (ha2 : a ≤ A) (hb1 : -B ≤ b) (hb2 : b ≤ B) : -(A * B) ≤ a * b ∧ a * b ≤ A * B := by
  have hA : 0 ≤ A := by grind
  have hB : 0 ≤ B := by grind
  have p1 : 0 ≤ (A - a) * (B + b) := Rat.mul_nonneg (by grind) (by grind)
  have p2 : 0 ≤ (A + a) * (B - b) := Rat.mul_nonneg (by grind) (by grind)
  have p3 : 0 ≤ (A - a) * (B - b) := Rat.mul_nonneg (by grind) (by grind)
  have p4 : 0 ≤ (A + a) * (B + b) := Rat.mul_nonneg (by grind) (by grind)
  constructor <;> grind
theorem Near.mul {x y : UInt64} {r e s d R T k : Rat} (hx : Near x r e) (hy : Near y s d) (r1 : -R ≤ r) (r2 : r ≤ R) (s1 : -T ≤ s) (s2 : s ≤ T) (hk : R * d + T * e + e * d + e0 ≤ k) (hb : R * T + k ≤ 4096) : Near (Float64.mul x y) (r * s) k := by
  obtain ⟨fx, x1, x2⟩ := hx; obtain ⟨fy, y1, y2⟩ := hy
  have a1 := mul_bd (a := r) (b := s) r1 r2 s1 s2
  have a2 := mul_bd (a := r) (b := Rv y - s) r1 r2 (B := d) (by grind) (by grind)
  have a3 := mul_bd (a := s) (b := Rv x - r) s1 s2 (B := e) (by grind) (by grind)
  have a4 := mul_bd (a := Rv x - r) (b := Rv y - s) (A := e) (B := d) (by grind) (by grind) (by grind) (by grind)
  have e1 : Rv x * Rv y = r * s + r * (Rv y - s) + s * (Rv x - r) + (Rv x - r) * (Rv y - s) := by grind
  have h0 : (0 : Rat) < e0 := by unfold e0; decide +kernel
  have := mul_near fx fy (by grind) (by grind)
  exact ⟨this.1, by have := this.2; grind, by have := this.2; grind⟩

theorem Fi.ofRight {r : UInt64} {neg : Bool} {W Dd : Nat} (h : Right r neg W Dd) (hD : 0 < Dd) {q : Rat} (hq : q * ((Dd : Nat) : Rat) * ((S : Nat) : Rat) = ((W : Nat) : Rat)) (h2 : q ≤ 4096) : Near r (if neg then -q else q) e0 := by
  have hW : W ≤ Dd * 2 ^ 1086 := by
    have e : (2 : Nat) ^ 1086 = 4096 * S := by unfold S; decide +kernel
    rw [e]
    have hp : (0 : Rat) ≤ ((Dd : Nat) : Rat) := by exact_mod_cast Nat.zero_le Dd
    have p1 := Rat.mul_le_mul_of_nonneg_right (Rat.mul_le_mul_of_nonneg_right h2 hp) (Rat.le_of_lt SR_pos)
    rw [hq] at p1
    have : ((W : Nat) : Rat) ≤ (((Dd * (4096 * S)) : Nat) : Rat) := by
      rw [Rat.natCast_mul, Rat.natCast_mul]
      have e4 : ((4096 : Nat) : Rat) = 4096 := rfl
      rw [e4]; grind
    exact Rat.natCast_le_natCast.mp this
  obtain ⟨v, hf, hv, n1, n2⟩ := right_near h hD hW
  have hDp : (0 : Rat) < ((Dd : Nat) : Rat) := by exact_mod_cast hD
  have n1' : ((W : Nat) : Rat) ≤ ((Dd : Nat) : Rat) * ((v : Nat) : Rat) + ((Dd : Nat) : Rat) * ((U : Nat) : Rat) := by exact_mod_cast n1
  have n2' : ((Dd : Nat) : Rat) * ((v : Nat) : Rat) ≤ ((W : Nat) : Rat) + ((Dd : Nat) : Rat) * ((U : Nat) : Rat) := by exact_mod_cast n2
  rw [← hq, UR_eq] at n1' n2'
  have f := fin1 hDp q n1' n2'
  have rS := Rv_val r
  rw [hv] at rS
  refine ⟨hf, ?_⟩
  unfold sgn at rS
  cases neg
  · simp only [Bool.false_eq_true, if_false, Rat.intCast_natCast] at rS ⊢
    rw [rS] at f
    exact ⟨div_S f.1, div_S f.2⟩
  · simp only [if_true, Rat.intCast_neg, Rat.intCast_natCast] at rS ⊢
    have := fin3 (q := -q) SR_pos rS (by have := f.1; grind) (by have := f.2; grind)
    exact this

/-- a whole number over 1024, exactly -/
def Dy (x : UInt64) (n : Int) : Prop := Fi x ∧ val x = n * ((2 ^ 1064 : Nat) : Int)
theorem Dy.rv {x : UInt64} {n : Int} (h : Dy x n) : Rv x = (n : Rat) / 1024 := by
  have h1 := Rv_val x
  rw [h.2, Rat.intCast_mul, Rat.intCast_natCast] at h1
  have e : ((S : Nat) : Rat) = (((2 ^ 1064 : Nat) : Nat) : Rat) * 1024 := by
    have : S = 2 ^ 1064 * 1024 := by unfold S; decide +kernel
    rw [this, Rat.natCast_mul]; rfl
  have hp : (0 : Rat) < (((2 ^ 1064 : Nat) : Nat) : Rat) := by have := Nat.two_pow_pos 1064; exact_mod_cast this
  rw [e] at h1
  generalize (((2 ^ 1064 : Nat) : Nat) : Rat) = s at *
  have h2 : (n : Rat) * s = (Rv x * 1024) * s := by grind
  have h3 : (n : Rat) = Rv x * 1024 := by grind
  grind
theorem right_dy {r : UInt64} {n : Int} {A : Int} (hA : A = n * ((2 ^ 1064 : Nat) : Int)) (h : Right r (decide (A < 0)) A.natAbs 1) (hn : n.natAbs ≤ 2 ^ 22) : Dy r n := by
  have e1 : A.natAbs = n.natAbs * 2 ^ 1064 := by rw [hA, Int.natAbs_mul, Int.natAbs_natCast]
  have hb : A.natAbs ≤ 1 * 2 ^ 1086 := by
    rw [e1, Nat.one_mul]
    have e : (2 : Nat) ^ 1086 = 2 ^ 22 * 2 ^ 1064 := by rw [← Nat.pow_add]
    rw [e]
    exact Nat.mul_le_mul_right _ hn
  have := right_exact h (by decide) hb (q := n.natAbs) (k := 1064) (Nat.le_trans hn (by decide)) (by rw [e1, Nat.one_mul])
  refine ⟨this.1, ?_⟩
  rw [this.2]
  have hp : (0 : Int) < ((2 ^ 1064 : Nat) : Int) := Int.ofNat_lt.mpr (Nat.two_pow_pos _)
  generalize (2 : Nat) ^ 1064 = p at *
  unfold sgn
  by_cases c : n < 0
  · have : A < 0 := by rw [hA]; exact Int.mul_neg_of_neg_of_pos c hp
    simp only [this, decide_true, if_true]
    rw [Int.natCast_mul, ← Int.neg_mul]
    congr 1
    omega
  · have : ¬ A < 0 := by rw [hA]; have := Int.mul_nonneg (show 0 ≤ n by omega) (Int.le_of_lt hp); omega
    simp only [this, decide_false, Bool.false_eq_true, if_false]
    rw [Int.natCast_mul]
    congr 1
    omega
theorem Dy.add {x y : UInt64} {n m : Int} (hx : Dy x n) (hy : Dy y m) (h : (n + m).natAbs ≤ 2 ^ 22) : Dy (Float64.add x y) (n + m) := by
  obtain ⟨⟨a, k, e, dx⟩, vx⟩ := hx
  obtain ⟨⟨b, l, f, dy⟩, vy⟩ := hy
  have hs : val x + val y = (n + m) * ((2 ^ 1064 : Nat) : Int) := by rw [vx, vy, Int.add_mul]
  rcases add_right dx dy with ⟨h1, h2⟩
  by_cases hz : val x + val y = 0
  · rw [h1 hz]
    obtain ⟨z1, z2⟩ := fi_zero (a && b)
    exact ⟨z1, by rw [z2, ← hs, hz]⟩
  · exact right_dy hs (h2 hz) h
theorem Dy.neg {y : UInt64} {m : Int} (hy : Dy y m) : Dy (Float64.neg y) (-m) := by
  obtain ⟨⟨b, l, f, dy⟩, vy⟩ := hy
  exact ⟨⟨_, _, _, neg_decode dy⟩, by rw [neg_val dy, vy, Int.neg_mul]⟩
theorem Dy.sub {x y : UInt64} {n m : Int} (hx : Dy x n) (hy : Dy y m) (h : (n - m).natAbs ≤ 2 ^ 22) : Dy (Float64.sub x y) (n - m) := by
  have : Float64.sub x y = Float64.add x (Float64.neg y) := by unfold Float64.sub; rfl
  rw [this, Int.sub_eq_add_neg]
  exact hx.add hy.neg (by rwa [← Int.sub_eq_add_neg])
theorem Dy.cmp {x y : UInt64} {n m : Int} (hx : Dy x n) (hy : Dy y m) : Float64.cmp x y = some (compare n m) := by
  obtain ⟨⟨a, k, e, dx⟩, vx⟩ := hx
  obtain ⟨⟨b, l, f, dy⟩, vy⟩ := hy
  rw [cmp_right dx dy, vx, vy]
  have hp : (0 : Int) < ((2 ^ 1064 : Nat) : Int) := Int.ofNat_lt.mpr (Nat.two_pow_pos _)
  generalize ((2 ^ 1064 : Nat) : Int) = p at *
  congr 1
  rcases Int.lt_trichotomy n m with h | h | h
  · rw [Int.compare_eq_lt.mpr h, Int.compare_eq_lt.mpr (Int.mul_lt_mul_of_pos_right h hp)]
  · rw [h, Int.compare_eq_eq.mpr rfl, Int.compare_eq_eq.mpr rfl]
  · rw [Int.compare_eq_gt.mpr h, Int.compare_eq_gt.mpr (Int.mul_lt_mul_of_pos_right h hp)]
theorem Dy.near {x : UInt64} {n : Int} (h : Dy x n) : Near x ((n : Rat) / 1024) 0 := by
  have := Near.rfl' h.1
  rwa [h.rv] at this
/-- a true quotient of whole numbers -/
theorem Dy.frac {p : Int} {d c : Nat} (hp : 0 ≤ p) (hd : (d : Int) * (c : Int) = 1024) (hn : (p * c).natAbs ≤ 2 ^ 22) : Dy (Float64.ofFrac (decide (p < 0) != decide ((d : Int) < 0)) p.natAbs (d : Int).natAbs) (p * c) := by
  have hd0 : 0 < d := by rcases Nat.eq_zero_or_pos d with h | h; · subst h; simp at hd
                         · exact h
  have e1 : (decide (p < 0) != decide ((d : Int) < 0)) = decide ((p * c) * ((2 ^ 1064 : Nat) : Int) < 0) := by
    have h1 : ¬ p < 0 := by omega
    have h2 : ¬ (d : Int) < 0 := by omega
    have h3 : ¬ ((p * c) * ((2 ^ 1064 : Nat) : Int) < 0) := by
      have := Int.mul_nonneg (Int.mul_nonneg hp (Int.natCast_nonneg c)) (Int.natCast_nonneg (2 ^ 1064))
      omega
    simp only [h1, h2, h3, decide_false]
    rfl
  rw [e1]
  refine right_dy rfl ?_ hn
  refine ofFrac_right (by rw [Int.natAbs_natCast]; exact hd0) ?_ (by decide)
  rw [Int.natAbs_mul, Int.natAbs_mul, Int.natAbs_natCast, Int.natAbs_natCast, Int.natAbs_natCast, Nat.mul_one]
  have e2 : (2 : Nat) ^ 1074 = (d * c) * 2 ^ 1064 := by
    have : d * c = 1024 := by have := hd; exact_mod_cast this
    rw [this]; decide +kernel
  rw [e2]
  generalize (2 : Nat) ^ 1064 = q
  ac_rfl
theorem near_frac {p : Int} {d : Nat} (hp : 0 ≤ p) (hd : 0 < d) (h2 : p ≤ 4096) : Near (Float64.ofFrac (decide (p < 0) != decide ((d : Int) < 0)) p.natAbs (d : Int).natAbs) ((p : Rat) / ((d : Nat) : Rat)) e0 := by
  have e1 : (decide (p < 0) != decide ((d : Int) < 0)) = false := by
    have h1 : ¬ p < 0 := by omega
    have h2 : ¬ (d : Int) < 0 := by omega
    simp only [h1, h2, decide_false]; rfl
  rw [e1]
  have hr : Right (Float64.ofFrac false p.natAbs (d : Int).natAbs) false (p.natAbs * 2 ^ 1074) d := ofFrac_right (by rw [Int.natAbs_natCast]; exact hd) (by rw [Int.natAbs_natCast]) hd
  have hd' : (0 : Rat) < ((d : Nat) : Rat) := by exact_mod_cast hd
  have hpp : ((p.natAbs : Nat) : Rat) = (p : Rat) := by rw [← Rat.intCast_natCast]; congr 1; omega
  have := Fi.ofRight (q := (p : Rat) / ((d : Nat) : Rat)) hr hd (by
    show _ = (((p.natAbs * S) : Nat) : Rat)
    rw [Rat.natCast_mul, hpp]
    grind) (by
    have h3 : (p : Rat) ≤ 4096 := by have := cast_le h2; exact this
    have h4 : (1 : Rat) ≤ ((d : Nat) : Rat) := by have := Rat.natCast_le_natCast.mpr hd; exact this
    have : (p : Rat) / ((d : Nat) : Rat) * ((d : Nat) : Rat) ≤ 4096 * ((d : Nat) : Rat) := by
      have : (p : Rat) / ((d : Nat) : Rat) * ((d : Nat) : Rat) = (p : Rat) := by grind
      rw [this]; grind
    exact Rat.le_of_mul_le_mul_right this hd')
  exact this
theorem near_int {p : Int} (hp : 0 ≤ p) (h2 : p ≤ 4096) : Near (Float64.ofInt p) (p : Rat) e0 := by
  have := near_frac (d := 1) hp (by decide) h2
  have e1 : (decide (p < 0) != decide (((1 : Nat) : Int) < 0)) = decide (p < 0) := by
    have h1 : ¬ p < 0 := by omega
    simp only [h1]; rfl
  rw [e1] at this
  have e2 : (p : Rat) / ((1 : Nat) : Rat) = (p : Rat) := by have : ((1 : Nat) : Rat) = 1 := rfl; rw [this]; grind
  rw [e2] at this
  unfold ofInt
  exact this
end Mine
end
section
open PySem PySem.Float64
set_option linter.unusedVariables false
set_option maxRecDepth 10000
namespace Mine

theorem e0_pos : (0 : Rat) < e0 := by unfold e0; decide +kernel
theorem e0_small : e0 * 1000000000000 ≤ 1 := by unfold e0; decide +kernel
-- order
theorem cmp_lt {x y : UInt64} (hx : Fi x) (hy : Fi y) (h : Rv x < Rv y) : Float64.cmp x y = some .lt := by
  obtain ⟨a, k, e, dx⟩ := hx
  obtain ⟨b, l, f, dy⟩ := hy
  rw [cmp_right dx dy, Int.compare_eq_lt.mpr]
  have p := Rat.mul_lt_mul_of_pos_right h SR_pos
  rw [← Rv_val, ← Rv_val] at p
  exact Rat.intCast_lt_intCast.mp p
theorem cmp_eq {x y : UInt64} (hx : Fi x) (hy : Fi y) (h : Rv x = Rv y) : Float64.cmp x y = some .eq := by
  obtain ⟨a, k, e, dx⟩ := hx
  obtain ⟨b, l, f, dy⟩ := hy
  rw [cmp_right dx dy, Int.compare_eq_eq.mpr]
  have p : ((val x : Int) : Rat) = ((val y : Int) : Rat) := by rw [Rv_val, Rv_val, h]
  exact Rat.intCast_inj.mp p
theorem cmp_gt {x y : UInt64} (hx : Fi x) (hy : Fi y) (h : Rv y < Rv x) : Float64.cmp x y = some .gt := by
  obtain ⟨a, k, e, dx⟩ := hx
  obtain ⟨b, l, f, dy⟩ := hy
  rw [cmp_right dx dy, Int.compare_eq_gt.mpr]
  have p := Rat.mul_lt_mul_of_pos_right h SR_pos
  rw [← Rv_val, ← Rv_val] at p
  exact Rat.intCast_lt_intCast.mp p
theorem cmp_lt_iff {x y : UInt64} (hx : Fi x) (hy : Fi y) : (Float64.cmp x y == some .lt) = decide (Rv x < Rv y) := by
  by_cases h : Rv x < Rv y
  · rw [cmp_lt hx hy h, decide_eq_true h]; rfl
  · rw [decide_eq_false h]
    by_cases h2 : Rv x = Rv y
    · rw [cmp_eq hx hy h2]; rfl
    · rw [cmp_gt hx hy (by grind)]; rfl
theorem cmp_eq_iff {x y : UInt64} (hx : Fi x) (hy : Fi y) : (Float64.cmp x y == some .eq) = decide (Rv x = Rv y) := by
  by_cases h : Rv x = Rv y
  · rw [cmp_eq hx hy h, decide_eq_true h]; rfl
  · rw [decide_eq_false h]
    by_cases h2 : Rv x < Rv y
    · rw [cmp_lt hx hy h2]; rfl
    · rw [cmp_gt hx hy (by grind)]; rfl
theorem isZero_iff {x : UInt64} (hx : Fi x) : isZero x = decide (Rv x = 0) := by
  obtain ⟨a, k, e, dx⟩ := hx
  have h1 := Rv_val x
  rw [val_eq dx] at h1
  unfold isZero
  rw [dx]
  rcases k with _ | k
  · have : sgn a (0 * 2 ^ (e + 1074).toNat) = 0 := by unfold sgn; cases a <;> simp
    rw [this] at h1
    have hz : Rv x = 0 := by have := SR_pos; have e3 : ((0 : Int) : Rat) = 0 := rfl; rw [e3] at h1; grind
    rw [decide_eq_true hz]; rfl
  · have hz : Rv x ≠ 0 := by
      intro hz
      rw [hz, Rat.zero_mul] at h1
      have h2 : sgn a ((k + 1) * 2 ^ (e + 1074).toNat) = 0 := by exact_mod_cast h1
      have h3 := congrArg Int.natAbs h2
      rw [sgn_natAbs] at h3
      have : 0 < (k + 1) * 2 ^ (e + 1074).toNat := Nat.mul_pos (Nat.succ_pos k) (Nat.two_pow_pos (e + 1074).toNat)
      simp only [Int.natAbs_zero] at h3
      omega
    rw [decide_eq_false hz]; rfl
-- truncation
theorem toI_eq {x : UInt64} {a : Bool} {m : Nat} {e : Int} (h : decode x = .fin a m e) : toI x = sgn a ((val x).natAbs / S) := by
  unfold toI
  rw [h]
  have hge := decode_ge h
  have hf : floorOf false m e = (((val x).natAbs / S : Nat) : Int) := by
    rw [val_natAbs h]
    unfold floorOf
    by_cases c : e ≥ 0
    · rw [if_pos c]
      have e1 : (e + 1074).toNat = e.toNat + 1074 := by omega
      rw [e1, Nat.pow_add, ← Nat.mul_assoc]
      show _ = ((m * 2 ^ e.toNat * S / S : Nat) : Int)
      rw [Nat.mul_div_cancel _ S_pos]
      unfold sgn
      simp
    · rw [if_neg c]
      have e1 : S = 2 ^ (-e).toNat * 2 ^ (e + 1074).toNat := by unfold S; rw [← Nat.pow_add]; congr 1; omega
      rw [e1, Nat.mul_div_mul_right _ _ (Nat.two_pow_pos _)]
      unfold sgn
      simp only [Bool.false_eq_true, if_false]
      rw [Int.fdiv_eq_ediv_of_nonneg _ (by have := Int.natCast_nonneg (2 ^ (-e).toNat); simpa using this)]
      simp
  unfold truncOf ceilOf
  cases a
  · simp only [Bool.false_eq_true, if_false]; rw [hf]; rfl
  · simp only [if_true, Bool.not_true]; rw [hf]; rfl
theorem toI_of {x : UInt64} (hx : Fi x) {i : Nat} (h1 : (i : Rat) ≤ Rv x) (h2 : Rv x < (i : Rat) + 1) : toI x = (i : Int) := by
  obtain ⟨a, k, e, dx⟩ := hx
  have p1 := Rat.mul_le_mul_of_nonneg_right h1 (Rat.le_of_lt SR_pos)
  have p2 := Rat.mul_lt_mul_of_pos_right h2 SR_pos
  rw [← Rv_val] at p1 p2
  have q1 : (((i * S : Nat) : Int) : Rat) ≤ ((val x : Int) : Rat) := by rw [Rat.intCast_natCast, Rat.natCast_mul]; exact p1
  have q2 : ((val x : Int) : Rat) < ((((i + 1) * S : Nat) : Int) : Rat) := by rw [Rat.intCast_natCast, Rat.natCast_mul, Rat.natCast_add]; exact p2
  have r1 := Rat.intCast_le_intCast.mp q1
  have r2 := Rat.intCast_lt_intCast.mp q2
  have hd : (val x).natAbs / S = i := by
    apply Nat.div_eq_of_lt_le
    · omega
    · omega
  rw [toI_eq dx, hd]
  unfold sgn
  cases a
  · rfl
  · have hn : val x ≤ 0 := by rw [val_eq dx]; unfold sgn; simp only [if_true]; omega
    have : i * S = 0 := by omega
    have : i = 0 := by rcases Nat.mul_eq_zero.mp this with h | h; · exact h
                       · exact absurd h (Nat.ne_of_gt S_pos)
    subst this; rfl
theorem toI_neg {x : UInt64} (hx : Fi x) (h1 : -1 < Rv x) (h2 : Rv x < 1) : toI x = 0 := by
  obtain ⟨a, k, e, dx⟩ := hx
  have p1 := Rat.mul_lt_mul_of_pos_right h1 SR_pos
  have p2 := Rat.mul_lt_mul_of_pos_right h2 SR_pos
  rw [← Rv_val] at p1 p2
  have q1 : ((-((S : Nat) : Int) : Int) : Rat) < ((val x : Int) : Rat) := by rw [Rat.intCast_neg, Rat.intCast_natCast]; grind
  have q2 : ((val x : Int) : Rat) < (((S : Nat) : Int) : Rat) := by rw [Rat.intCast_natCast]; grind
  have r1 := Rat.intCast_lt_intCast.mp q1
  have r2 := Rat.intCast_lt_intCast.mp q2
  have hd : (val x).natAbs / S = 0 := Nat.div_eq_of_lt (by omega)
  rw [toI_eq dx, hd]
  unfold sgn; cases a <;> rfl
theorem toI_ex {x : UInt64} (hx : Fi x) (h1 : -1 < Rv x) : ∃ i : Nat, toI x = (i : Int) ∧ Rv x < (i : Rat) + 1 ∧ ((i : Rat) ≤ Rv x ∨ (i = 0 ∧ Rv x < 0)) := by
  by_cases h : Rv x < 0
  · exact ⟨0, toI_neg hx h1 (by grind), by have : ((0 : Nat) : Rat) = 0 := rfl; rw [this]; grind, .inr ⟨rfl, h⟩⟩
  · obtain ⟨a, k, e, dx⟩ := hx
    have hv : (0 : Rat) ≤ ((val x : Int) : Rat) := by
      rw [Rv_val]; exact Rat.mul_nonneg (by grind) (Rat.le_of_lt SR_pos)
    have hv' : 0 ≤ val x := by exact_mod_cast hv
    have hdm := Nat.div_add_mod (val x).natAbs S
    have hml := Nat.mod_lt (val x).natAbs S_pos
    generalize hi : (val x).natAbs / S = i at *
    have a1 : ((S * i : Nat) : Int) ≤ val x := by omega
    have a2 : val x < ((S * i + S : Nat) : Int) := by omega
    have b1 := cast_le a1
    have b2 := Rat.intCast_lt_intCast.mpr a2
    rw [Rat.intCast_natCast, Rat.natCast_mul, Rv_val] at b1
    rw [Rat.intCast_natCast, Rat.natCast_add, Rat.natCast_mul, Rv_val] at b2
    have c1 : (i : Rat) ≤ Rv x := div_S (by grind)
    have c2 : Rv x < (i : Rat) + 1 := by
      have : Rv x * ((S : Nat) : Rat) < ((i : Rat) + 1) * ((S : Nat) : Rat) := by grind
      exact Rat.lt_of_mul_lt_mul_right this (Rat.le_of_lt SR_pos)
    exact ⟨i, toI_of ⟨a, k, e, dx⟩ c1 c2, c2, .inl c1⟩
-- the constants
theorem near_const {x : UInt64} {a : Bool} {m : Nat} {e : Int} {r d : Rat} (h : decode x = .fin a m e) (h1 : (r - d) * ((S : Nat) : Rat) ≤ ((sgn a (m * 2 ^ (e + 1074).toNat) : Int) : Rat)) (h2 : ((sgn a (m * 2 ^ (e + 1074).toNat) : Int) : Rat) ≤ (r + d) * ((S : Nat) : Rat)) : Near x r d := by
  rw [← val_eq h, Rv_val] at h1 h2
  exact ⟨⟨a, m, e, h⟩, div_S h1, div_S h2⟩
theorem n0 : Near c0 0 0 := near_const (a := false) (m := 0) (e := -1074) (by kernel_rfl) (by decide +kernel) (by decide +kernel)
theorem nHalf : Near cHalf (1/2) 0 := near_const (a := false) (m := 2 ^ 52) (e := -53) (by kernel_rfl) (by decide +kernel) (by decide +kernel)
theorem n1 : Near c1 1 0 := near_const (a := false) (m := 2 ^ 52) (e := -52) (by kernel_rfl) (by decide +kernel) (by decide +kernel)
theorem n2 : Near c2 2 0 := near_const (a := false) (m := 2 ^ 52) (e := -51) (by kernel_rfl) (by decide +kernel) (by decide +kernel)
theorem n4 : Near c4 4 0 := near_const (a := false) (m := 2 ^ 52) (e := -50) (by kernel_rfl) (by decide +kernel) (by decide +kernel)
theorem n6 : Near c6 6 0 := near_const (a := false) (m := 3 * 2 ^ 51) (e := -50) (by kernel_rfl) (by decide +kernel) (by decide +kernel)
abbrev c3 : UInt64 := 0x4008000000000000
theorem n3 : Near c3 3 0 := near_const (a := false) (m := 3 * 2 ^ 51) (e := -51) (by kernel_rfl) (by decide +kernel) (by decide +kernel)
theorem nThird : Near cThird (1/3) e0 := near_const (a := false) (m := 6004799503160661) (e := -54) (by kernel_rfl) (by decide +kernel) (by decide +kernel)
theorem nSixth : Near cSixth (1/6) e0 := near_const (a := false) (m := 6004799503160661) (e := -55) (by kernel_rfl) (by decide +kernel) (by decide +kernel)
theorem nTwo3 : Near cTwo3 (2/3) e0 := near_const (a := false) (m := 6004799503160661) (e := -53) (by kernel_rfl) (by decide +kernel) (by decide +kernel)
-- the remainder by one
theorem fmod1 {x : UInt64} {a : Bool} {m : Nat} {e : Int} (h : decode x = .fin a m e) : Right (fmod x c1) a ((val x).natAbs % S) 1 := by
  have hge := decode_ge h
  have h1 : decode c1 = .fin false (2 ^ 52) (-52) := by kernel_rfl
  have hm : fmod x c1 = ofBin a ((m * 2 ^ (e - min e (-52)).toNat) % (2 ^ 52 * 2 ^ (-52 - min e (-52)).toNat)) (min e (-52)) := by
    unfold fmod
    rw [h, h1]
    rfl
  rw [hm]
  have hW : (val x).natAbs % S = ((m * 2 ^ (e - min e (-52)).toNat) % (2 ^ 52 * 2 ^ (-52 - min e (-52)).toNat)) * 2 ^ (min e (-52) + ((1074 : Nat) : Int)).toNat := by
    rw [← Nat.mul_mod_mul_right, val_natAbs h]
    congr 1
    · rw [Nat.mul_assoc, ← Nat.pow_add]; congr 2; omega
    · rw [← Nat.pow_add, ← Nat.pow_add]; unfold S; congr 1; omega
  rw [hW]
  generalize ((m * 2 ^ (e - min e (-52)).toNat) % (2 ^ 52 * 2 ^ (-52 - min e (-52)).toNat)) = M
  have := shift_one M (min e (-52)) 1074 (by omega)
  unfold ofBin
  refine ofFrac_right (shift_pos _ _ _ (by decide)) ?_ (by decide)
  rw [Nat.mul_one]
  exact this
theorem modF_near {x : UInt64} (hx : Fi x) : ∃ n : Int, Near (modF x) (Rv x - (n : Rat)) (2 * e0) ∧ -(2 * e0) ≤ Rv (modF x) ∧ Rv (modF x) ≤ 1 + 2 * e0 := by
  obtain ⟨a, m, e, dx⟩ := hx
  have hr := fmod1 dx
  have hdm := Nat.div_add_mod (val x).natAbs S
  have hml := Nat.mod_lt (val x).natAbs S_pos
  generalize hk : (val x).natAbs / S = k at *
  generalize hrr : (val x).natAbs % S = r at *
  have hvx : Rv x * ((S : Nat) : Rat) = (if a then -(((S : Nat) : Rat) * ((k : Nat) : Rat) + ((r : Nat) : Rat)) else (((S : Nat) : Rat) * ((k : Nat) : Rat) + ((r : Nat) : Rat))) := by
    rw [← Rv_val, sgn_val dx, ← hdm]
    unfold sgn
    cases a
    · simp only [Bool.false_eq_true, if_false]; rw [Rat.intCast_natCast, Rat.natCast_add, Rat.natCast_mul]
    · simp only [if_true]; rw [Rat.intCast_neg, Rat.intCast_natCast, Rat.natCast_add, Rat.natCast_mul]
  have hr1 : ((r : Nat) : Rat) ≤ ((S : Nat) : Rat) := Rat.natCast_le_natCast.mpr (Nat.le_of_lt hml)
  have hr0 : (0 : Rat) ≤ ((r : Nat) : Rat) := by exact_mod_cast Nat.zero_le r
  have hSp := SR_pos
  have hdd : ((r : Nat) : Rat) / ((S : Nat) : Rat) * ((S : Nat) : Rat) = ((r : Nat) : Rat) := Rat.div_mul_cancel (by grind)
  have hq1 : ((r : Nat) : Rat) / ((S : Nat) : Rat) ≤ 1 := div_S (by rw [hdd, Rat.one_mul]; exact hr1)
  have hq0 : 0 ≤ ((r : Nat) : Rat) / ((S : Nat) : Rat) := div_S (by rw [hdd, Rat.zero_mul]; exact hr0)
  have hm := Fi.ofRight hr (by decide) (q := ((r : Nat) : Rat) / ((S : Nat) : Rat)) (by have : ((1 : Nat) : Rat) = 1 := rfl; rw [this, Rat.mul_one]; exact hdd) (by grind)
  generalize hqq : ((r : Nat) : Rat) / ((S : Nat) : Rat) = q at *
  have hx2 : Rv x = (if a then -(((k : Nat) : Rat) + q) else (((k : Nat) : Rat) + q)) := by
    have hrq : ((r : Nat) : Rat) = q * ((S : Nat) : Rat) := hdd.symm
    rw [hrq] at hvx
    have : Rv x * ((S : Nat) : Rat) = (if a then -(((k : Nat) : Rat) + q) else (((k : Nat) : Rat) + q)) * ((S : Nat) : Rat) := by rw [hvx]; split <;> grind
    grind
  have hmod : modF x = (if isZero (fmod x c1) then copysign (zero false) c1 else if lt c1 (zero false) != lt (fmod x c1) (zero false) then Float64.add (fmod x c1) c1 else fmod x c1) := by
    unfold modF divmod
    simp only
    split
    · rfl
    · split <;> rfl
  have hp := e0_pos
  have ek : ((k : Int) : Rat) = ((k : Nat) : Rat) := Rat.intCast_natCast k
  obtain ⟨hf, hm1, hm2⟩ := hm
  have hxm : ∃ n : Int, Rv x - (n : Rat) = (if a then -q else q) := by
    refine ⟨if a then -(k : Int) else k, ?_⟩
    rw [hx2]
    cases a
    · simp only [Bool.false_eq_true, if_false]; rw [ek]; grind
    · simp only [if_true]; rw [Rat.intCast_neg, ek]; grind
  obtain ⟨n, hn⟩ := hxm
  generalize hQ : (if a = true then -q else q) = Q at *
  have hQ1 : -1 ≤ Q ∧ Q ≤ 1 := by rw [← hQ]; split <;> grind
  rw [hmod]
  by_cases c : isZero (fmod x c1) = true
  · rw [if_pos c]
    rw [isZero_iff hf] at c
    have c' := of_decide_eq_true c
    have hz : copysign (zero false) c1 = c0 := by decide +kernel
    rw [hz]
    obtain ⟨z1, z2, z3⟩ := n0
    refine ⟨n, ⟨z1, ?_, ?_⟩, ?_, ?_⟩ <;> grind
  · rw [if_neg c]
    rw [isZero_iff hf] at c
    have c' : ¬ (Rv (fmod x c1) = 0) := fun h => c (decide_eq_true h)
    have hc1 : lt c1 (zero false) = false := by decide +kernel
    have hzc : zero false = c0 := by decide +kernel
    rw [hc1, hzc]
    have hlt : lt (fmod x c1) c0 = decide (Rv (fmod x c1) < Rv c0) := by unfold lt; exact cmp_lt_iff hf n0.1
    rw [hlt]
    have hz0 : Rv c0 = 0 := by have := n0.2; grind
    rw [hz0]
    by_cases c2 : Rv (fmod x c1) < 0
    · rw [decide_eq_true c2]
      have := Near.add ⟨hf, hm1, hm2⟩ n1 (by have := e0_small; grind) (by grind) (by grind) (by grind)
      obtain ⟨w1, w2, w3⟩ := this
      have hb := add_near hf n1.1 (by have := n1.2; have := e0_small; grind) (by have := n1.2; have := e0_small; grind)
      have hone : Rv c1 = 1 := by have := n1.2; grind
      refine ⟨n - 1, ⟨w1, ?_, ?_⟩, ?_, ?_⟩
      · show _ ≤ Rv (Float64.add _ _); rw [Rat.intCast_sub]; have : ((1 : Int) : Rat) = 1 := rfl; rw [this]; grind
      · show Rv (Float64.add _ _) ≤ _; rw [Rat.intCast_sub]; have : ((1 : Int) : Rat) = 1 := rfl; rw [this]; grind
      · show _ ≤ Rv (Float64.add _ _); grind
      · show Rv (Float64.add _ _) ≤ _; grind
    · rw [decide_eq_false c2]
      refine ⟨n, ⟨hf, ?_, ?_⟩, ?_, ?_⟩
      · show _ ≤ Rv (fmod x c1); grind
      · show Rv (fmod x c1) ≤ _; grind
      · show _ ≤ Rv (fmod x c1); grind
      · show Rv (fmod x c1) ≤ _; grind
end Mine
end
section
open PySem PySem.Float64
set_option linter.unusedVariables false
set_option maxRecDepth 10000
namespace Mine

theorem Dy.fmax {x y : UInt64} {n m : Int} (hx : Dy x n) (hy : Dy y m) : Dy (fmax x y) (max n m) := by
  unfold Mine.fmax
  rw [hy.cmp hx]
  rcases Int.lt_trichotomy m n with h | h | h
  · rw [Int.compare_eq_lt.mpr h, Int.max_eq_left (Int.le_of_lt h)]; exact hx
  · rw [Int.compare_eq_eq.mpr h, Int.max_eq_left (by omega)]; exact hx
  · rw [Int.compare_eq_gt.mpr h, Int.max_eq_right (Int.le_of_lt h)]; exact hy
theorem Dy.fmin {x y : UInt64} {n m : Int} (hx : Dy x n) (hy : Dy y m) : Dy (fmin x y) (min n m) := by
  unfold Mine.fmin
  rw [hy.cmp hx]
  rcases Int.lt_trichotomy m n with h | h | h
  · rw [Int.compare_eq_lt.mpr h, Int.min_eq_right (Int.le_of_lt h)]; exact hy
  · rw [Int.compare_eq_eq.mpr h, Int.min_eq_left (by omega)]; exact hx
  · rw [Int.compare_eq_gt.mpr h, Int.min_eq_left (by omega)]; exact hx

/-- three exact parts -/
structure Tri (r g b : UInt64) (R G B M m : Int) : Prop where
  dr : Dy r R
  dg : Dy g G
  db : Dy b B
  dM : Dy (maxF r g b) M
  dm : Dy (minF r g b) m
  lr : 0 ≤ R ∧ R ≤ 1024
  lg : 0 ≤ G ∧ G ≤ 1024
  lb : 0 ≤ B ∧ B ≤ 1024
  hM : M = max (max R G) B
  hm : m = min (min R G) B
theorem Tri.mk' {r g b : UInt64} {R G B : Int} (hr : Dy r R) (hg : Dy g G) (hb : Dy b B) (lr : 0 ≤ R ∧ R ≤ 1024) (lg : 0 ≤ G ∧ G ≤ 1024) (lb : 0 ≤ B ∧ B ≤ 1024) : Tri r g b R G B (max (max R G) B) (min (min R G) B) :=
  ⟨hr, hg, hb, (hr.fmax hg).fmax hb, (hr.fmin hg).fmin hb, lr, lg, lb, rfl, rfl⟩

variable {r g b : UInt64} {R G B M m : Int}
theorem Tri.grey (t : Tri r g b R G B M m) : greyF r g b = decide (m = M) := by
  unfold greyF
  rw [t.dm.cmp t.dM]
  rcases Int.lt_trichotomy m M with h | h | h
  · rw [Int.compare_eq_lt.mpr h, decide_eq_false (by omega)]; rfl
  · rw [Int.compare_eq_eq.mpr h, decide_eq_true h]; rfl
  · rw [Int.compare_eq_gt.mpr h, decide_eq_false (by omega)]; rfl
theorem Tri.rng (t : Tri r g b R G B M m) : Dy (rngF r g b) (M - m) := t.dM.sub t.dm (by have := t.lr; have := t.lg; have := t.lb; have := t.hM; have := t.hm; omega)
theorem Dy.isZero {x : UInt64} {n : Int} (h : Dy x n) (hn : n ≠ 0) : Float64.isZero x = false := by
  rw [isZero_iff h.1, h.rv, decide_eq_false]
  intro h2
  apply hn
  have : (n : Rat) = 0 := by grind
  exact_mod_cast this
/-- a quotient of exact ones -/
theorem Dy.div {x y : UInt64} {n k : Int} (hx : Dy x n) (hy : Dy y k) (hk : 0 < k) (h0 : 0 ≤ n) (h1 : n ≤ k) : ∃ c : Rat, c * (k : Rat) = (n : Rat) ∧ 0 ≤ c ∧ c ≤ 1 ∧ Near (Float64.div x y) c e0 := by
  have hkp : (0 : Rat) < (k : Rat) := by exact_mod_cast hk
  have hn0 : (0 : Rat) ≤ (n : Rat) := by exact_mod_cast h0
  have hnk : (n : Rat) ≤ (k : Rat) := cast_le h1
  have hc : (n : Rat) / (k : Rat) * (k : Rat) = (n : Rat) := Rat.div_mul_cancel (by grind)
  refine ⟨(n : Rat) / (k : Rat), hc, ?_⟩
  generalize (n : Rat) / (k : Rat) = c at *
  have c0 : 0 ≤ c := Rat.le_of_mul_le_mul_right (c := (k : Rat)) (by rw [hc, Rat.zero_mul]; exact hn0) hkp
  have c1 : c ≤ 1 := Rat.le_of_mul_le_mul_right (c := (k : Rat)) (by rw [hc, Rat.one_mul]; exact hnk) hkp
  have := div_near (q := c) hx.1 hy.1 (by rw [hy.rv]; grind) (by rw [hx.rv, hy.rv]; grind) (by grind) (by grind)
  exact ⟨c0, c1, this⟩
theorem Tri.ch (t : Tri r g b R G B M m) (h : m ≠ M) {x : UInt64} {X : Int} (hx : Dy x X) (h1 : m ≤ X) (h2 : X ≤ M) : ∃ c : Rat, c * ((M - m : Int) : Rat) = ((M - X : Int) : Rat) ∧ 0 ≤ c ∧ c ≤ 1 ∧ Near (chF r g b x) c e0 := by
  have := t.lr; have := t.lg; have := t.lb; have := t.hM; have := t.hm
  exact Dy.div (t.dM.sub hx (by omega)) t.rng (by omega) (by omega) (by omega)

/-- what a lamp gives, sixths from its own rise -/
def Wp (j : Nat) (f : Rat) : Rat := if j = 0 then f else if j = 1 then 1 else if j = 2 then 1 else if j = 3 then 1 - f else 0
structure Hue (h : UInt64) (R G B M m : Int) (j : Nat) (f : Rat) (n : Int) : Prop where
  jl : j < 6
  f0 : 0 ≤ f
  f1 : f ≤ 1
  near : Near h (((j : Nat) : Rat) / 6 + f / 6 - (n : Rat)) (10 * e0)
  lo : -(2 * e0) ≤ Rv h
  hi : Rv h ≤ 1 + 2 * e0
  vr : (R : Rat) = (m : Rat) + ((M - m : Int) : Rat) * Wp ((j + 2) % 6) f
  vg : (G : Rat) = (m : Rat) + ((M - m : Int) : Rat) * Wp j f
  vb : (B : Rat) = (m : Rat) + ((M - m : Int) : Rat) * Wp ((j + 4) % 6) f
theorem Near.div6 {x : UInt64} {r e : Rat} (h : Near x r e) (he : e ≤ 1) (h1 : -2000 ≤ r) (h2 : r ≤ 2000) : Near (Float64.div x c6) (r / 6) (e + e0) := by
  obtain ⟨hf, a1, a2⟩ := h
  obtain ⟨sf, s1, s2⟩ := n6
  have h6 : Rv c6 = 6 := by grind
  have := div_near (q := Rv x / 6) hf sf (by rw [h6]; grind) (by rw [h6]; grind) (by grind) (by grind)
  have hp := e0_pos
  exact ⟨this.1, by have := this.2; grind, by have := this.2; grind⟩
theorem hue_of {raw : UInt64} {y : Rat} (hr : Near raw y (4 * e0)) (y1 : -2 ≤ y) (y2 : y ≤ 7) : ∃ n : Int, Near (modF (Float64.div raw c6)) (y / 6 - (n : Rat)) (10 * e0) ∧ -(2 * e0) ≤ Rv (modF (Float64.div raw c6)) ∧ Rv (modF (Float64.div raw c6)) ≤ 1 + 2 * e0 := by
  have hs := e0_small
  have hp := e0_pos
  obtain ⟨a1, a2, a3⟩ := hr.div6 (by grind) (by grind) (by grind)
  obtain ⟨n, ⟨b1, b2, b3⟩, b4, b5⟩ := modF_near a1
  exact ⟨n, ⟨b1, by grind, by grind⟩, b4, b5⟩
theorem Tri.hue (t : Tri r g b R G B M m) (h : m ≠ M) : ∃ j f n, Hue (hueF r g b) R G B M m j f n := by
  have l1 := t.lr; have l2 := t.lg; have l3 := t.lb; have hM := t.hM; have hm := t.hm
  obtain ⟨cr, er, r0, r1, nr⟩ := t.ch h t.dr (by omega) (by omega)
  obtain ⟨cg, eg, g0, g1, ng⟩ := t.ch h t.dg (by omega) (by omega)
  obtain ⟨cb, eb, b0, b1, nb⟩ := t.ch h t.db (by omega) (by omega)
  have hs := e0_small
  have hp := e0_pos
  have hD : (0 : Rat) < ((M - m : Int) : Rat) := by have : (0 : Int) < M - m := by omega
                                                    exact_mod_cast this
  have eD : ((M - m : Int) : Rat) = (M : Rat) - (m : Rat) := Rat.intCast_sub _ _
  rw [Rat.intCast_sub M R] at er
  rw [Rat.intCast_sub M G] at eg
  rw [Rat.intCast_sub M B] at eb
  have one_of : ∀ {c X : Rat}, c * ((M - m : Int) : Rat) = (M : Rat) - X → X = (m : Rat) → c = 1 := by
    intro c X hc hX
    have h9 : (c - 1) * ((M - m : Int) : Rat) = 0 := by grind
    rcases Rat.mul_eq_zero.mp h9 with h | h <;> grind
  have zero_of : ∀ {c X : Rat}, c * ((M - m : Int) : Rat) = (M : Rat) - X → X = (M : Rat) → c = 0 := by
    intro c X hc hX
    have h9 : c * ((M - m : Int) : Rat) = 0 := by grind
    rcases Rat.mul_eq_zero.mp h9 with h | h <;> grind
  have h2r : Float64.cmp r (maxF r g b) = some (compare R M) := t.dr.cmp t.dM
  have h2g : Float64.cmp g (maxF r g b) = some (compare G M) := t.dg.cmp t.dM
  unfold hueF rawHue
  by_cases c1 : R = M
  · rw [h2r, Int.compare_eq_eq.mpr c1]
    have hcr : cr = 0 := zero_of er (by rw [c1])
    have hn := Near.sub nb ng (by grind) (by grind) (by grind) (by grind)
    by_cases c2 : B ≤ G
    · have hcb : cb = 1 := one_of eb (by have : B = m := by omega
                                         rw [this])
      obtain ⟨n, q1, q2, q3⟩ := hue_of (y := cb - cg) (hn.mono (by grind)) (by grind) (by grind)
      refine ⟨0, 1 - cg, n, ⟨by decide, by grind, by grind, ?_, q2, q3, ?_, ?_, ?_⟩⟩
      · have e : ((0 : Nat) : Rat) / 6 + (1 - cg) / 6 - (n : Rat) = (cb - cg) / 6 - (n : Rat) := by have : ((0 : Nat) : Rat) = 0 := rfl; rw [this]; grind
        rw [e]; exact q1
      · show (R : Rat) = _ + _ * 1; grind
      · show (G : Rat) = _ + _ * (1 - cg); grind
      · show (B : Rat) = _ + _ * 0; grind
    · have hcg : cg = 1 := one_of eg (by have : G = m := by omega
                                         rw [this])
      obtain ⟨n, q1, q2, q3⟩ := hue_of (y := cb - cg) (hn.mono (by grind)) (by grind) (by grind)
      refine ⟨5, cb, n + 1, ⟨by decide, by grind, by grind, ?_, q2, q3, ?_, ?_, ?_⟩⟩
      · have e : ((5 : Nat) : Rat) / 6 + cb / 6 - ((n + 1 : Int) : Rat) = (cb - cg) / 6 - (n : Rat) := by rw [Rat.intCast_add]; have e1 : ((5 : Nat) : Rat) = 5 := rfl; have e2 : ((1 : Int) : Rat) = 1 := rfl; rw [e1, e2]; grind
        rw [e]; exact q1
      · show (R : Rat) = _ + _ * 1; grind
      · show (G : Rat) = _ + _ * 0; grind
      · show (B : Rat) = _ + _ * (1 - cb); grind
  · have e1 : (some (compare R M) == some Ordering.eq) = false := by
      rcases Int.lt_trichotomy R M with h | h | h
      · rw [Int.compare_eq_lt.mpr h]; rfl
      · exact absurd h c1
      · rw [Int.compare_eq_gt.mpr h]; rfl
    rw [h2r, e1]
    simp only [Bool.false_eq_true, if_false]
    by_cases c2 : G = M
    · rw [h2g, Int.compare_eq_eq.mpr c2]
      simp only [beq_self_eq_true, if_true]
      have hcg : cg = 0 := zero_of eg (by rw [c2])
      have hn := Near.sub (Near.add n2 nr (by grind) (by grind) (by grind) (by grind)) nb (by grind) (by grind) (by grind) (by grind)
      by_cases c3 : R ≤ B
      · have hcr : cr = 1 := one_of er (by have : R = m := by omega
                                           rw [this])
        obtain ⟨n, q1, q2, q3⟩ := hue_of (y := 2 + cr - cb) (hn.mono (by grind)) (by grind) (by grind)
        refine ⟨2, 1 - cb, n, ⟨by decide, by grind, by grind, ?_, q2, q3, ?_, ?_, ?_⟩⟩
        · have e : ((2 : Nat) : Rat) / 6 + (1 - cb) / 6 - (n : Rat) = (2 + cr - cb) / 6 - (n : Rat) := by have : ((2 : Nat) : Rat) = 2 := rfl; rw [this]; grind
          rw [e]; exact q1
        · show (R : Rat) = _ + _ * 0; grind
        · show (G : Rat) = _ + _ * 1; grind
        · show (B : Rat) = _ + _ * (1 - cb); grind
      · have hcb : cb = 1 := one_of eb (by have : B = m := by omega
                                           rw [this])
        obtain ⟨n, q1, q2, q3⟩ := hue_of (y := 2 + cr - cb) (hn.mono (by grind)) (by grind) (by grind)
        refine ⟨1, cr, n, ⟨by decide, by grind, by grind, ?_, q2, q3, ?_, ?_, ?_⟩⟩
        · have e : ((1 : Nat) : Rat) / 6 + cr / 6 - (n : Rat) = (2 + cr - cb) / 6 - (n : Rat) := by have : ((1 : Nat) : Rat) = 1 := rfl; rw [this]; grind
          rw [e]; exact q1
        · show (R : Rat) = _ + _ * (1 - cr); grind
        · show (G : Rat) = _ + _ * 1; grind
        · show (B : Rat) = _ + _ * 0; grind
    · have e2 : (some (compare G M) == some Ordering.eq) = false := by
        rcases Int.lt_trichotomy G M with h | h | h
        · rw [Int.compare_eq_lt.mpr h]; rfl
        · exact absurd h c2
        · rw [Int.compare_eq_gt.mpr h]; rfl
      rw [h2g, e2]
      simp only [Bool.false_eq_true, if_false]
      have c3 : B = M := by omega
      have hcb : cb = 0 := zero_of eb (by rw [c3])
      have hn := Near.sub (Near.add n4 ng (by grind) (by grind) (by grind) (by grind)) nr (by grind) (by grind) (by grind) (by grind)
      by_cases c4 : G ≤ R
      · have hcg : cg = 1 := one_of eg (by have : G = m := by omega
                                           rw [this])
        obtain ⟨n, q1, q2, q3⟩ := hue_of (y := 4 + cg - cr) (hn.mono (by grind)) (by grind) (by grind)
        refine ⟨4, 1 - cr, n, ⟨by decide, by grind, by grind, ?_, q2, q3, ?_, ?_, ?_⟩⟩
        · have e : ((4 : Nat) : Rat) / 6 + (1 - cr) / 6 - (n : Rat) = (4 + cg - cr) / 6 - (n : Rat) := by have : ((4 : Nat) : Rat) = 4 := rfl; rw [this]; grind
          rw [e]; exact q1
        · show (R : Rat) = _ + _ * (1 - cr); grind
        · show (G : Rat) = _ + _ * 0; grind
        · show (B : Rat) = _ + _ * 1; grind
      · have hcr : cr = 1 := one_of er (by have : R = m := by omega
                                           rw [this])
        obtain ⟨n, q1, q2, q3⟩ := hue_of (y := 4 + cg - cr) (hn.mono (by grind)) (by grind) (by grind)
        refine ⟨3, cg, n, ⟨by decide, by grind, by grind, ?_, q2, q3, ?_, ?_, ?_⟩⟩
        · have e : ((3 : Nat) : Rat) / 6 + cg / 6 - (n : Rat) = (4 + cg - cr) / 6 - (n : Rat) := by have : ((3 : Nat) : Rat) = 3 := rfl; rw [this]; grind
          rw [e]; exact q1
        · show (R : Rat) = _ + _ * 0; grind
        · show (G : Rat) = _ + _ * (1 - cg); grind
        · show (B : Rat) = _ + _ * 1; grind
end Mine
end
section
open PySem PySem.Float64
set_option linter.unusedVariables false
set_option maxRecDepth 10000
namespace Mine

theorem Wp_bd {j : Nat} {f : Rat} (f0 : 0 ≤ f) (f1 : f ≤ 1) : 0 ≤ Wp j f ∧ Wp j f ≤ 1 := by
  unfold Wp; grind
theorem six {j : Nat} (h : j < 6) : j = 0 ∨ j = 1 ∨ j = 2 ∨ j = 3 ∨ j = 4 ∨ j = 5 := by omega
theorem int_of_bd {k : Int} (h1 : (-2 : Rat) < (k : Rat)) (h2 : (k : Rat) < 2) : k = -1 ∨ k = 0 ∨ k = 1 := by
  have a1 : ((-2 : Int) : Rat) < (k : Rat) := h1
  have a2 : (k : Rat) < ((2 : Int) : Rat) := h2
  have := Rat.intCast_lt_intCast.mp a1
  have := Rat.intCast_lt_intCast.mp a2
  omega

theorem wz {e : Rat} (he : 0 < e) (hs : e * 1000000000000 ≤ 1) {j : Nat} (hj : j < 6) {f z k : Rat} (f0 : 0 ≤ f) (f1 : f ≤ 1) (hk : k = -1 ∨ k = 0 ∨ k = 1)
    (z1 : ((j : Nat) : Rat) / 6 + f / 6 + k - 70 * e ≤ z) (z2 : z ≤ ((j : Nat) : Rat) / 6 + f / 6 + k + 70 * e) (lo : -(2 * e) ≤ z) (hi : z ≤ 1 + 2 * e) :
    (z < 1/6 + e → -(500 * e) ≤ 6 * z - Wp j f ∧ 6 * z - Wp j f ≤ 500 * e) ∧
    (1/6 - e ≤ z → z < 1/2 → -(500 * e) ≤ 1 - Wp j f ∧ 1 - Wp j f ≤ 500 * e) ∧
    (1/2 ≤ z → z < 2/3 + e → -(500 * e) ≤ (4 - 6 * z) - Wp j f ∧ (4 - 6 * z) - Wp j f ≤ 500 * e) ∧
    (2/3 - e ≤ z → -(500 * e) ≤ 0 - Wp j f ∧ 0 - Wp j f ≤ 500 * e) := by
  rcases six hj with rfl | rfl | rfl | rfl | rfl | rfl
  · have e1 : ((0 : Nat) : Rat) = 0 := rfl
    rw [e1] at z1 z2
    have : Wp 0 f = f := rfl
    rw [this]
    rcases hk with rfl | rfl | rfl <;> grind
  · have e1 : ((1 : Nat) : Rat) = 1 := rfl
    rw [e1] at z1 z2
    have : Wp 1 f = 1 := rfl
    rw [this]
    rcases hk with rfl | rfl | rfl <;> grind
  · have e1 : ((2 : Nat) : Rat) = 2 := rfl
    rw [e1] at z1 z2
    have : Wp 2 f = 1 := rfl
    rw [this]
    rcases hk with rfl | rfl | rfl <;> grind
  · have e1 : ((3 : Nat) : Rat) = 3 := rfl
    rw [e1] at z1 z2
    have : Wp 3 f = 1 - f := rfl
    rw [this]
    rcases hk with rfl | rfl | rfl <;> grind
  · have e1 : ((4 : Nat) : Rat) = 4 := rfl
    rw [e1] at z1 z2
    have : Wp 4 f = 0 := rfl
    rw [this]
    rcases hk with rfl | rfl | rfl <;> grind
  · have e1 : ((5 : Nat) : Rat) = 5 := rfl
    rw [e1] at z1 z2
    have : Wp 5 f = 0 := rfl
    rw [this]
    rcases hk with rfl | rfl | rfl <;> grind

theorem v_near {m1 m2 x : UInt64} {a c f : Rat} {j : Nat} {n : Int} (h1 : Near m1 a (40 * e0)) (h2 : Near m2 c (40 * e0)) (ha : 0 ≤ a) (hac : a ≤ c) (hc : c ≤ 1) (hj : j < 6) (f0 : 0 ≤ f) (f1 : f ≤ 1)
    (hx : Near x (((j : Nat) : Rat) / 6 + f / 6 + (n : Rat)) (60 * e0)) : Near (vF m1 m2 x) (a + (c - a) * Wp j f) (2000 * e0) := by
  have hs := e0_small
  have hp := e0_pos
  obtain ⟨xf, x1, x2⟩ := hx
  obtain ⟨k', ⟨zf, y1, y2⟩, lo, hi⟩ := modF_near xf
  have hz : Near (modF x) (Rv (modF x)) 0 := Near.rfl' zf
  have hjr : ((j : Nat) : Rat) ≤ 5 := by have := Rat.natCast_le_natCast.mpr (show j ≤ 5 by omega); exact this
  have hj0 : (0 : Rat) ≤ ((j : Nat) : Rat) := by exact_mod_cast Nat.zero_le j
  have hkc : ((n - k' : Int) : Rat) = (n : Rat) - (k' : Rat) := Rat.intCast_sub _ _
  have hk := int_of_bd (k := n - k') (by rw [hkc]; grind) (by rw [hkc]; grind)
  have hk2 : ((n : Rat) - (k' : Rat) = -1) ∨ ((n : Rat) - (k' : Rat) = 0) ∨ ((n : Rat) - (k' : Rat) = 1) := by
    rw [← hkc]
    rcases hk with h | h | h
    · left; rw [h]; rfl
    · right; left; rw [h]; rfl
    · right; right; rw [h]; rfl
  obtain ⟨w1, w2, w3, w4⟩ := wz hp hs hj (z := Rv (modF x)) f0 f1 hk2 (by grind) (by grind) lo hi
  obtain ⟨b0, b1⟩ := Wp_bd (j := j) f0 f1
  generalize Wp j f = w at *
  obtain ⟨sf, s1, s2⟩ := nSixth
  obtain ⟨tf, t1, t2⟩ := nTwo3
  obtain ⟨hf, h11, h12⟩ := nHalf
  have hd := Near.sub h2 h1 (by grind) (by grind) (by grind) (by grind)
  unfold vF
  rw [cmp_lt_iff zf sf, cmp_lt_iff zf hf, cmp_lt_iff zf tf]
  generalize Rv (modF x) = z at *
  by_cases d1 : z < Rv cSixth
  · rw [decide_eq_true d1, if_pos rfl]
    have p1 := Near.mul (k := 200 * e0) hd hz (R := 1) (T := 2) (by grind) (by grind) (by grind) (by grind) (by grind) (by grind)
    have q1 := mul_bd (a := c - a) (b := z) (A := 1) (B := 2) (by grind) (by grind) (by grind) (by grind)
    have p2 := Near.mul (k := 1210 * e0) p1 n6 (R := 2) (T := 6) (by grind) (by grind) (by grind) (by grind) (by grind) (by grind)
    have p3 := Near.add h1 p2 (by grind) (by grind) (by grind) (by grind)
    have q2 := mul_bd (a := c - a) (b := 6 * z - w) (A := 1) (B := 500 * e0) (by grind) (by grind) (w1 (by grind)).1 (w1 (by grind)).2
    exact p3.shift (by grind) (by grind)
  · rw [decide_eq_false d1, if_neg (by decide)]
    by_cases d2 : z < Rv cHalf
    · rw [decide_eq_true d2, if_pos rfl]
      have w := w2 (by grind) (by grind)
      have q2 := mul_bd (a := c - a) (A := 1) (B := 500 * e0) (by grind) (by grind) w.1 w.2
      exact h2.shift (by grind) (by grind)
    · rw [decide_eq_false d2, if_neg (by decide)]
      by_cases d3 : z < Rv cTwo3
      · rw [decide_eq_true d3, if_pos rfl]
        have hz2 := Near.sub nTwo3 hz (by grind) (by grind) (by grind) (by grind)
        have p1 := Near.mul (k := 200 * e0) hd hz2 (R := 1) (T := 2) (by grind) (by grind) (by grind) (by grind) (by have := mul_bd (a := e0) (b := e0) (A := e0) (B := 1/100) (by grind) (by grind) (by grind) (by grind); grind) (by grind)
        have q1 := mul_bd (a := c - a) (b := 2/3 - z) (A := 1) (B := 2) (by grind) (by grind) (by grind) (by grind)
        have p2 := Near.mul (k := 1210 * e0) p1 n6 (R := 2) (T := 6) (by grind) (by grind) (by grind) (by grind) (by grind) (by grind)
        have p3 := Near.add h1 p2 (by grind) (by grind) (by grind) (by grind)
        have w := w3 (by grind) (by grind)
        have q2 := mul_bd (a := c - a) (A := 1) (B := 500 * e0) (by grind) (by grind) w.1 w.2
        exact p3.shift (by grind) (by grind)
      · rw [decide_eq_false d3, if_neg (by decide)]
        have w := w4 (by grind)
        have q2 := mul_bd (a := c - a) (A := 1) (B := 500 * e0) (by grind) (by grind) w.1 w.2
        exact h1.shift (by grind) (by grind)

/-- the light and the share of hls, and the two ends again -/
theorem Tri.ends {r g b : UInt64} {R G B M m : Int} (t : Tri r g b R G B M m) (h : m ≠ M) (hM : M < 1024) :
    Float64.isZero (denF r g b) = false ∧ (Float64.cmp (satF r g b) c0 == some .eq) = false ∧
    Near (m1F (lightF r g b) (satF r g b)) ((m : Rat) / 1024) (40 * e0) ∧ Near (m2F (lightF r g b) (satF r g b)) ((M : Rat) / 1024) (40 * e0) := by
  have l1 := t.lr; have l2 := t.lg; have l3 := t.lb; have eM := t.hM; have em := t.hm
  have hs := e0_small
  have hp := e0_pos
  have hsum : Dy (Float64.add (maxF r g b) (minF r g b)) (M + m) := t.dM.add t.dm (by omega)
  have d2 : Dy c2 2048 := ⟨n2.1, by have : val c2 = 2048 * ((2 ^ 1064 : Nat) : Int) := by decide +kernel
                                    exact this⟩
  have hden2 : Dy (Float64.sub (Float64.sub c2 (maxF r g b)) (minF r g b)) (2048 - M - m) := (d2.sub t.dM (by omega)).sub t.dm (by omega)
  have hl := Dy.div hsum d2 (by omega) (by omega) (by omega)
  obtain ⟨l, el, l0, l1', nl⟩ := hl
  have elr : l * 2048 = (M : Rat) + (m : Rat) := by rw [Rat.intCast_add] at el; exact el
  have hMp : (0 : Rat) ≤ (M : Rat) := by exact_mod_cast (show (0 : Int) ≤ M by omega)
  have hmp : (0 : Rat) ≤ (m : Rat) := by exact_mod_cast (show (0 : Int) ≤ m by omega)
  have hMl : (M : Rat) ≤ 1024 := by have := cast_le (show M ≤ 1024 by omega); exact this
  have hmM : (m : Rat) + 1 ≤ (M : Rat) := by have := cast_le (show m + 1 ≤ M by omega); rw [Rat.intCast_add] at this; exact this
  -- the share
  have hsat : ∃ k : Int, 0 < k ∧ k ≤ 2048 ∧ M - m ≤ k ∧ Dy (denF r g b) k ∧ k = (if lowF (lightF r g b) then M + m else 2048 - M - m) := by
    unfold denF
    by_cases c : lowF (lightF r g b) = true
    · rw [if_pos c, if_pos c]; exact ⟨_, by omega, by omega, by omega, hsum, rfl⟩
    · rw [if_neg c, if_neg c]; exact ⟨_, by omega, by omega, by omega, hden2, rfl⟩
  obtain ⟨k, k0, k1, k2, hk, ek⟩ := hsat
  obtain ⟨s, es, s0, s1, ns⟩ := Dy.div t.rng hk k0 (by omega) k2
  have esr : s * (k : Rat) = (M : Rat) - (m : Rat) := by rw [Rat.intCast_sub] at es; exact es
  have hkr : (k : Rat) ≤ 2048 := by have := cast_le k1; exact this
  have hkp : (0 : Rat) < (k : Rat) := by exact_mod_cast k0
  have hs2 : 1 ≤ s * 2048 := by
    have := Rat.mul_nonneg s0 (show (0 : Rat) ≤ 2048 - (k : Rat) by grind)
    grind
  refine ⟨hk.isZero (by omega), ?_, ?_⟩
  · have hsf : Fi (satF r g b) := ns.1
    rw [cmp_eq_iff hsf n0.1, decide_eq_false]
    have h1 : s - e0 ≤ Rv (satF r g b) := ns.2.1
    have h2 := n0.2
    grind
  have hl' : Near (lightF r g b) l e0 := nl
  have hs' : Near (satF r g b) s e0 := ns
  have hm2 : Near (m2F (lightF r g b) (satF r g b)) ((M : Rat) / 1024) (10 * e0) := by
    unfold m2F
    have ee := mul_bd (a := e0) (b := e0) (A := e0) (B := 1) (by grind) (by grind) (by grind) (by grind)
    by_cases c : lowF (lightF r g b) = true
    · rw [if_pos c] at ek ⊢
      have p1 := Near.add n1 hs' (by grind) (by grind) (by grind) (by grind)
      have p2 := Near.mul (k := 9 * e0) hl' p1 (R := 1) (T := 2) (by grind) (by grind) (by grind) (by grind) (by grind) (by grind)
      have ekr : (k : Rat) = (M : Rat) + (m : Rat) := by rw [ek, Rat.intCast_add]
      have : l * (1 + s) = (M : Rat) / 1024 := by
        rw [ekr] at esr
        have : l * (1 + s) * 2048 = (M : Rat) * 2 := by
          have : l * (1 + s) * 2048 = l * 2048 + (l * 2048) * s := by grind
          rw [this, elr]; grind
        grind
      rw [this] at p2
      exact p2.mono (by grind)
    · rw [if_neg c] at ek ⊢
      have p1 := Near.add hl' hs' (by grind) (by grind) (by grind) (by grind)
      have p2 := Near.mul (k := 4 * e0) hl' hs' (R := 1) (T := 1) (by grind) (by grind) (by grind) (by grind) (by grind) (by grind)
      have p4 := mul_bd (a := l) (b := s) (A := 1) (B := 1) (by grind) (by grind) (by grind) (by grind)
      have p3 := Near.sub p1 p2 (by grind) (by grind) (by grind) (by grind)
      have ekr : (k : Rat) = 2048 - (M : Rat) - (m : Rat) := by rw [ek, Rat.intCast_sub, Rat.intCast_sub]; rfl
      have : l + s - l * s = (M : Rat) / 1024 := by
        rw [ekr] at esr
        have : (l + s - l * s) * 2048 = (M : Rat) * 2 := by
          have : (l + s - l * s) * 2048 = l * 2048 + s * (2048 - l * 2048) := by grind
          rw [this, elr]; grind
        grind
      rw [this] at p3
      exact p3.mono (by grind)
  refine ⟨?_, hm2.mono (by grind)⟩
  unfold m1F
  have p1 := Near.mul (k := 4 * e0) n2 hl' (R := 2) (T := 1) (by grind) (by grind) (by grind) (by grind) (by grind) (by grind)
  have p2 := Near.sub p1 hm2 (by grind) (by grind) (by grind) (by grind)
  have : 2 * l - (M : Rat) / 1024 = (m : Rat) / 1024 := by grind
  rw [this] at p2
  exact p2.mono (by grind)
end Mine
end
section
open PySem PySem.Float64
set_option linter.unusedVariables false
set_option maxRecDepth 10000
namespace Mine

/-- the three lamps of a hue, in floats -/
def Lamps (ds : List D) (R G B : Rat) : Prop := ∃ x y z : UInt64, ds = [.flt x, .flt y, .flt z] ∧ Near x R (3000 * e0) ∧ Near y G (3000 * e0) ∧ Near z B (3000 * e0)

/-- neighbouring sextants meet -/
theorem Wp_join {e : Rat} (he : 0 < e) {i j : Nat} (hi : i < 6) (hj : j < 6) {f g : Rat} (f0 : 0 ≤ f) (f1 : f ≤ 1) (g0 : -(500 * e) ≤ g) (g1 : g ≤ 1 + 500 * e)
    (h : (i = j ∧ f - 500 * e ≤ g ∧ g ≤ f + 500 * e) ∨ (i = (j + 5) % 6 ∧ f + 1 - 500 * e ≤ g ∧ g ≤ f + 1 + 500 * e) ∨ (i = (j + 1) % 6 ∧ f - 1 - 500 * e ≤ g ∧ g ≤ f - 1 + 500 * e)) :
    -(1000 * e) ≤ Wp i g - Wp j f ∧ Wp i g - Wp j f ≤ 1000 * e := by
  have W0 : ∀ t, Wp 0 t = t := fun _ => rfl
  have W1 : ∀ t, Wp 1 t = 1 := fun _ => rfl
  have W2 : ∀ t, Wp 2 t = 1 := fun _ => rfl
  have W3 : ∀ t, Wp 3 t = 1 - t := fun _ => rfl
  have W4 : ∀ t, Wp 4 t = 0 := fun _ => rfl
  have W5 : ∀ t, Wp 5 t = 0 := fun _ => rfl
  rcases h with ⟨h, h1, h2⟩ | ⟨h, h1, h2⟩ | ⟨h, h1, h2⟩ <;> subst h <;> rcases six hj with rfl | rfl | rfl | rfl | rfl | rfl <;> simp only [Nat.reduceAdd, Nat.reduceMod, W0, W1, W2, W3, W4, W5] <;> constructor <;> grind

theorem join_shift {s i j : Nat} (hi : i < 6) (hj : j < 6) {P1 P2 P3 : Prop} (h : (i = j ∧ P1) ∨ (i = (j + 5) % 6 ∧ P2) ∨ (i = (j + 1) % 6 ∧ P3)) :
    ((i + s) % 6 = (j + s) % 6 ∧ P1) ∨ ((i + s) % 6 = ((j + s) % 6 + 5) % 6 ∧ P2) ∨ ((i + s) % 6 = ((j + s) % 6 + 1) % 6 ∧ P3) := by
  rcases h with ⟨h, p⟩ | ⟨h, p⟩ | ⟨h, p⟩
  · exact .inl ⟨by omega, p⟩
  · exact .inr (.inl ⟨by omega, p⟩)
  · exact .inr (.inr ⟨by omega, p⟩)

theorem near_prod {a b c : UInt64} : True := trivial

theorem hsv_near {h s v : UInt64} {V σ f : Rat} {j : Nat} {n : Int} (hv : Near v V 0) (V0 : 0 ≤ V) (V1 : V ≤ 1) (hs : Near s σ e0) (s0 : 0 ≤ σ) (s1 : σ ≤ 1) (hj : j < 6) (f0 : 0 ≤ f) (f1 : f ≤ 1)
    (hh : Near h (((j : Nat) : Rat) / 6 + f / 6 + (n : Rat)) (60 * e0)) (lo : -(10 * e0) ≤ Rv h) (hi : Rv h ≤ 4) :
    Float64.isFinite (Float64.mul h c6) = true ∧ (secF h).natAbs < 2 ^ 1023 ∧
    Lamps (hsvOut ((secF h).fmod 6) h s v) (V * (1 - σ) + V * σ * Wp ((j + 2) % 6) f) (V * (1 - σ) + V * σ * Wp j f) (V * (1 - σ) + V * σ * Wp ((j + 4) % 6) f) := by
  have hsm := e0_small
  have hp := e0_pos
  obtain ⟨hf, h1, h2⟩ := hh
  have m6 := Near.mul (k := e0) (Near.rfl' hf) n6 (R := 5) (T := 6) (by grind) (by grind) (by grind) (by grind) (by grind) (by grind)
  obtain ⟨mf, a1, a2⟩ := m6
  refine ⟨mf.fin, ?_⟩
  obtain ⟨i, ei, i1, i2'⟩ := toI_ex mf (by grind)
  have i2 : ((i : Nat) : Rat) ≤ Rv (Float64.mul h c6) ∨ (((i : Nat) : Rat) = 0 ∧ Rv (Float64.mul h c6) < 0) := by
    rcases i2' with h | ⟨h, h'⟩
    · exact .inl h
    · exact .inr ⟨by rw [h]; rfl, h'⟩
  clear i2'
  have esec : secF h = (i : Int) := ei
  have hir : ((i : Nat) : Rat) ≤ 25 := by grind
  have hi25 : i ≤ 25 := by
    have : ((i : Nat) : Rat) ≤ ((25 : Nat) : Rat) := hir
    exact Rat.natCast_le_natCast.mp this
  refine ⟨by rw [esec]; have : (2 : Nat) ^ 1023 > 100 := by decide +kernel
             rw [Int.natAbs_natCast]; omega, ?_⟩
  have hi0 : (0 : Rat) ≤ ((i : Nat) : Rat) := by exact_mod_cast Nat.zero_le i
  have ni := near_int (p := (i : Int)) (by omega) (by omega)
  have eir : ((i : Int) : Rat) = ((i : Nat) : Rat) := Rat.intCast_natCast i
  rw [eir] at ni
  have nf : Near (fracF h) (Rv (Float64.mul h c6) - ((i : Nat) : Rat)) (2 * e0) := by
    have := Near.sub (Near.rfl' mf) ni (by grind) (by grind) (by grind) (by grind)
    unfold fracF
    rw [esec]
    exact this.mono (by grind)
  generalize hg : Rv (Float64.mul h c6) - ((i : Nat) : Rat) = γ at *
  have g0 : -(500 * e0) ≤ γ := by grind
  have g1 : γ ≤ 1 + 500 * e0 := by grind
  have hjr : ((j : Nat) : Rat) ≤ 5 := by have := Rat.natCast_le_natCast.mpr (show j ≤ 5 by omega); exact this
  have hj0 : (0 : Rat) ≤ ((j : Nat) : Rat) := by exact_mod_cast Nat.zero_le j
  -- which sextant
  have hd : (((i : Int) - (j : Int) - 6 * n : Int) : Rat) = ((i : Nat) : Rat) - ((j : Nat) : Rat) - 6 * (n : Rat) := by
    rw [Rat.intCast_sub, Rat.intCast_sub, Rat.intCast_mul, Rat.intCast_natCast, Rat.intCast_natCast]; rfl
  have hcase := int_of_bd (k := (i : Int) - (j : Int) - 6 * n) (by rw [hd]; grind) (by rw [hd]; grind)
  have hmod : (secF h).fmod 6 = ((i % 6 : Nat) : Int) := by
    rw [esec, Int.fmod_eq_emod_of_nonneg _ (by decide)]; omega
  have hrel : (i % 6 = j ∧ (f - 500 * e0 ≤ γ ∧ γ ≤ f + 500 * e0)) ∨ (i % 6 = (j + 5) % 6 ∧ (f + 1 - 500 * e0 ≤ γ ∧ γ ≤ f + 1 + 500 * e0)) ∨ (i % 6 = (j + 1) % 6 ∧ (f - 1 - 500 * e0 ≤ γ ∧ γ ≤ f - 1 + 500 * e0)) := by
    rcases hcase with hc | hc | hc
    · have : ((i : Nat) : Rat) - ((j : Nat) : Rat) - 6 * (n : Rat) = -1 := by rw [← hd, hc]; rfl
      exact .inr (.inl ⟨by omega, by grind, by grind⟩)
    · have : ((i : Nat) : Rat) - ((j : Nat) : Rat) - 6 * (n : Rat) = 0 := by rw [← hd, hc]; rfl
      exact .inl ⟨by omega, by grind, by grind⟩
    · have : ((i : Nat) : Rat) - ((j : Nat) : Rat) - 6 * (n : Rat) = 1 := by rw [← hd, hc]; rfl
      exact .inr (.inr ⟨by omega, by grind, by grind⟩)
  rw [hmod]
  have hi6 : i % 6 < 6 := Nat.mod_lt _ (by decide)
  generalize i % 6 = k at *
  -- the four parts
  have ee := mul_bd (a := e0) (b := e0) (A := e0) (B := 1/100) (by grind) (by grind) (by grind) (by grind)
  have np : Near (pF s v) (V * (1 - σ) + V * σ * 0) (100 * e0) := by
    have p1 := Near.sub n1 hs (by grind) (by grind) (by grind) (by grind)
    have p2 := Near.mul (k := 5 * e0) hv p1 (R := 1) (T := 1) (by grind) (by grind) (by grind) (by grind) (by grind) (by grind)
    exact p2.shift (by grind) (by grind)
  have nq : Near (qF h s v) (V * (1 - σ) + V * σ * (1 - γ)) (100 * e0) := by
    have p0 := Near.mul (k := 10 * e0) hs nf (R := 1) (T := 2) (by grind) (by grind) (by grind) (by grind) (by grind) (by grind)
    have q0 := mul_bd (a := σ) (b := γ) (A := 1) (B := 2) (by grind) (by grind) (by grind) (by grind)
    have p1 := Near.sub n1 p0 (by grind) (by grind) (by grind) (by grind)
    have p2 := Near.mul (k := 50 * e0) hv p1 (R := 1) (T := 3) (by grind) (by grind) (by grind) (by grind) (by grind) (by grind)
    exact p2.shift (by grind) (by grind)
  have nt : Near (tF h s v) (V * (1 - σ) + V * σ * γ) (100 * e0) := by
    have p9 := Near.sub n1 nf (by grind) (by grind) (by grind) (by grind)
    have p0 := Near.mul (k := 10 * e0) hs p9 (R := 1) (T := 2) (by grind) (by grind) (by grind) (by grind) (by grind) (by grind)
    have q0 := mul_bd (a := σ) (b := 1 - γ) (A := 1) (B := 2) (by grind) (by grind) (by grind) (by grind)
    have p1 := Near.sub n1 p0 (by grind) (by grind) (by grind) (by grind)
    have p2 := Near.mul (k := 50 * e0) hv p1 (R := 1) (T := 3) (by grind) (by grind) (by grind) (by grind) (by grind) (by grind)
    exact p2.shift (by grind) (by grind)
  have nv : Near v (V * (1 - σ) + V * σ * 1) (100 * e0) := hv.shift (by grind) (by grind)
  have hVs := mul_bd (a := V) (b := σ) (A := 1) (B := 1) (by grind) (by grind) (by grind) (by grind)
  have close : ∀ (st : Nat) {x : UInt64}, Near x (V * (1 - σ) + V * σ * Wp ((k + st) % 6) γ) (100 * e0) → Near x (V * (1 - σ) + V * σ * Wp ((j + st) % 6) f) (3000 * e0) := by
    intro st x hx
    have w := Wp_join hp (Nat.mod_lt (k + st) (by decide)) (Nat.mod_lt (j + st) (by decide)) f0 f1 g0 g1 (join_shift (s := st) hi6 hj hrel)
    have q := mul_bd (a := V * σ) (A := 1) (B := 1000 * e0) (by grind) (by grind) w.1 w.2
    exact hx.shift (by grind) (by grind)
  have close0 : ∀ {x : UInt64}, Near x (V * (1 - σ) + V * σ * Wp k γ) (100 * e0) → Near x (V * (1 - σ) + V * σ * Wp j f) (3000 * e0) := by
    intro x hx
    have := close 0 (x := x) (by rw [Nat.add_zero, Nat.mod_eq_of_lt hi6]; exact hx)
    rwa [Nat.add_zero, Nat.mod_eq_of_lt hj] at this
  rcases six hi6 with rfl | rfl | rfl | rfl | rfl | rfl
  · exact ⟨_, _, _, rfl, close 2 nv, close0 nt, close 4 np⟩
  · exact ⟨_, _, _, rfl, close 2 nq, close0 nv, close 4 np⟩
  · exact ⟨_, _, _, rfl, close 2 np, close0 nv, close 4 nt⟩
  · exact ⟨_, _, _, rfl, close 2 np, close0 nq, close 4 nv⟩
  · exact ⟨_, _, _, rfl, close 2 nt, close0 np, close 4 nv⟩
  · exact ⟨_, _, _, rfl, close 2 nv, close0 np, close 4 nq⟩
end Mine
end
section
open PySem PySem.Float64
set_option linter.unusedVariables false
set_option maxRecDepth 10000
namespace Mine

/-- a whole number over another, as the program divides -/
def frF (p d : Int) : UInt64 := Float64.ofFrac (decide (p < 0) != decide (d < 0)) p.natAbs d.natAbs
def rndF (x : UInt64) (u : Int) : UInt64 := Float64.add (Float64.mul x (Float64.ofInt u)) cHalf
def RndOk (x : UInt64) (u n : Int) : Prop := Float64.isFinite (rndF x u) = true ∧ toI (rndF x u) = n
theorem rnd_of {x : UInt64} {N : Rat} {p : Int} {u c : Nat} (hx : Near x (N / 1024) (3000 * e0)) (hu : u * c = 1024) (hp : 0 ≤ p) (hpu : p ≤ u) (hN : N = (p : Rat) * ((c : Nat) : Rat)) : RndOk x u p := by
  have hsm := e0_small
  have hpp := e0_pos
  have hc : c ≠ 0 := by rintro rfl; simp at hu
  have hu0 : u ≠ 0 := by rintro rfl; simp at hu
  have hul : u ≤ 1024 := by have := Nat.le_mul_of_pos_right u (Nat.pos_of_ne_zero hc); omega
  have nu := near_int (p := (u : Int)) (by omega) (by omega)
  have eu : ((u : Int) : Rat) = ((u : Nat) : Rat) := Rat.intCast_natCast u
  rw [eu] at nu
  have u0 : (0 : Rat) ≤ ((u : Nat) : Rat) := by exact_mod_cast Nat.zero_le u
  have u1 : ((u : Nat) : Rat) ≤ 1024 := by have := Rat.natCast_le_natCast.mpr hul; exact this
  have euc : ((u : Nat) : Rat) * ((c : Nat) : Rat) = 1024 := by rw [← Rat.natCast_mul, hu]; rfl
  have hv : N / 1024 * ((u : Nat) : Rat) = (p : Rat) := by rw [hN]; grind
  have hp0 : (0 : Rat) ≤ (p : Rat) := by exact_mod_cast hp
  have hp1 : (p : Rat) ≤ ((u : Nat) : Rat) := by have := cast_le hpu; rwa [eu] at this
  have hN0 : 0 ≤ N / 1024 := by
    have hup : (0 : Rat) < ((u : Nat) : Rat) := by exact_mod_cast Nat.pos_of_ne_zero hu0
    exact Rat.le_of_mul_le_mul_right (c := ((u : Nat) : Rat)) (by rw [hv]; grind) hup
  have hN1 : N / 1024 ≤ 1 := by
    have hup : (0 : Rat) < ((u : Nat) : Rat) := by exact_mod_cast Nat.pos_of_ne_zero hu0
    exact Rat.le_of_mul_le_mul_right (c := ((u : Nat) : Rat)) (by rw [hv]; grind) hup
  have ee := mul_bd (a := e0) (b := e0) (A := e0) (B := 1/100) (by grind) (by grind) (by grind) (by grind)
  have p1 := Near.mul (k := 4000000 * e0) hx nu (R := 1) (T := 1024) (by grind) (by grind) (by grind) (by grind) (by grind) (by grind)
  rw [hv] at p1
  have p2 := Near.add p1 nHalf (by grind) (by grind) (by grind) (by grind)
  refine ⟨p2.1.fin, ?_⟩
  have ep : ((p.toNat : Nat) : Rat) = (p : Rat) := by rw [← Rat.intCast_natCast]; congr 1; omega
  have := toI_of (i := p.toNat) p2.1 (by rw [ep]; have := p2.2; grind) (by rw [ep]; have := p2.2; grind)
  show toI (Float64.add _ _) = _
  rw [this]
  omega

theorem frF_dy {p : Int} {u c : Nat} (hu : u * c = 1024) (hp : 0 ≤ p) (hpu : p < u) : Dy (frF p u) (p * c) ∧ 0 ≤ p * c ∧ p * c < 1024 := by
  have hc : 0 < c := by rcases Nat.eq_zero_or_pos c with h | h; · subst h; simp at hu
                        · exact h
  have huc : (u : Int) * (c : Int) = 1024 := by exact_mod_cast hu
  have h1 : p * c < u * c := Int.mul_lt_mul_of_pos_right hpu (by omega)
  have h0 : 0 ≤ p * c := Int.mul_nonneg hp (by omega)
  refine ⟨?_, h0, by omega⟩
  unfold frF
  exact Dy.frac hp huc (by omega)
theorem frF_third {t : Nat} (ht : t ≤ 10) : Near (frF (t : Int) 3) (((t : Nat) : Rat) / 3) e0 := by
  have := near_frac (p := (t : Int)) (d := 3) (by omega) (by decide) (by omega)
  rw [Rat.intCast_natCast] at this
  exact this

/-- three parts of a unit -/
structure Parts (p : Nat → Int) (u c : Nat) : Prop where
  uc : u * c = 1024
  le : ∀ a, a < 3 → 0 ≤ p a ∧ p a < u
def mxP (p : Nat → Int) (c : Nat) : Int := max (max (p 0 * c) (p 1 * c)) (p 2 * c)
def mnP (p : Nat → Int) (c : Nat) : Int := min (min (p 0 * c) (p 1 * c)) (p 2 * c)
variable {p : Nat → Int} {u c : Nat}
theorem Parts.tri (h : Parts p u c) : Tri (frF (p 0) u) (frF (p 1) u) (frF (p 2) u) (p 0 * c) (p 1 * c) (p 2 * c) (mxP p c) (mnP p c) := by
  have a0 := frF_dy h.uc (h.le 0 (by decide)).1 (h.le 0 (by decide)).2
  have a1 := frF_dy h.uc (h.le 1 (by decide)).1 (h.le 1 (by decide)).2
  have a2 := frF_dy h.uc (h.le 2 (by decide)).1 (h.le 2 (by decide)).2
  exact Tri.mk' a0.1 a1.1 a2.1 (by omega) (by omega) (by omega)
theorem three {a : Nat} (h : a < 3) : a = 0 ∨ a = 1 ∨ a = 2 := by omega
theorem Parts.cpos (h : Parts p u c) : 0 < c := by
  have := h.uc
  rcases Nat.eq_zero_or_pos c with h | h; · subst h; simp at this
  · exact h
theorem Parts.mx (h : Parts p u c) : 0 ≤ mnP p c ∧ mnP p c ≤ mxP p c ∧ mxP p c < 1024 := by
  have a0 := frF_dy h.uc (h.le 0 (by decide)).1 (h.le 0 (by decide)).2
  have a1 := frF_dy h.uc (h.le 1 (by decide)).1 (h.le 1 (by decide)).2
  have a2 := frF_dy h.uc (h.le 2 (by decide)).1 (h.le 2 (by decide)).2
  unfold mnP mxP
  omega
theorem mul_c_inj {a b : Int} (hc : 0 < c) (h : a * (c : Int) = b * (c : Int)) : a = b := Int.eq_of_mul_eq_mul_right (by omega) h
/-- where all three are alike -/
theorem Parts.alike (h : Parts p u c) (e : mnP p c = mxP p c) : ∀ a, a < 3 → p a = p 0 ∧ p a * c = mxP p c := by
  intro a ha
  have : p a * c = p 0 * c := by unfold mnP mxP at e; rcases three ha with rfl | rfl | rfl <;> omega
  refine ⟨mul_c_inj h.cpos this, ?_⟩
  unfold mnP at e
  unfold mxP at e ⊢
  rcases three ha with rfl | rfl | rfl <;> omega

/-- hue, as sextant and share -/
structure HueP (x : UInt64) (p : Nat → Int) (c : Nat) (j : Nat) (f : Rat) (n : Int) : Prop where
  jl : j < 6
  f0 : 0 ≤ f
  f1 : f ≤ 1
  near : Near x (((j : Nat) : Rat) / 6 + f / 6 - (n : Rat)) (10 * e0)
  lo : -(2 * e0) ≤ Rv x
  hi : Rv x ≤ 1 + 2 * e0
  lamp : ∀ a, a < 3 → (p a : Rat) * ((c : Nat) : Rat) = (mnP p c : Rat) + ((mxP p c - mnP p c : Int) : Rat) * Wp ((j + 2 + 4 * a) % 6) f
theorem Parts.hue (h : Parts p u c) (e : mnP p c ≠ mxP p c) : ∃ j f n, HueP (hueF (frF (p 0) u) (frF (p 1) u) (frF (p 2) u)) p c j f n := by
  obtain ⟨j, f, n, k⟩ := h.tri.hue e
  refine ⟨j, f, n, k.jl, k.f0, k.f1, k.near, k.lo, k.hi, ?_⟩
  intro a ha
  have ec : ((c : Int) : Rat) = ((c : Nat) : Rat) := Rat.intCast_natCast c
  have jl := k.jl
  rcases three ha with rfl | rfl | rfl
  · have := k.vr; rw [Rat.intCast_mul, ec] at this; exact this
  · have := k.vg; rw [Rat.intCast_mul, ec] at this
    have e1 : (j + 2 + 4 * 1) % 6 = j := by omega
    rw [e1]; exact this
  · have := k.vb; rw [Rat.intCast_mul, ec] at this
    have e1 : (j + 2 + 4 * 2) % 6 = (j + 4) % 6 := by omega
    rw [e1]; exact this

theorem Wp_sym {i : Nat} (h : i < 6) (f : Rat) : Wp i (1 - f) = Wp ((9 - i) % 6) f := by
  rcases six h with rfl | rfl | rfl | rfl | rfl | rfl
  · rfl
  · rfl
  · rfl
  · show 1 - (1 - f) = f; grind
  · rfl
  · rfl

/-- the way back through hsv, for a hue told by sextant and share -/
theorem Parts.backV (h : Parts p u c) (e : mnP p c ≠ mxP p c) {h' : UInt64} {j : Nat} {f : Rat} {n : Int} (hj : j < 6) (f0 : 0 ≤ f) (f1 : f ≤ 1) (hh : Near h' (((j : Nat) : Rat) / 6 + f / 6 + (n : Rat)) (60 * e0)) (lo : -(10 * e0) ≤ Rv h') (hi : Rv h' ≤ 4) {q : Nat → Int}
    (hq : ∀ a, a < 3 → 0 ≤ q a ∧ q a < u ∧ (q a : Rat) * ((c : Nat) : Rat) = (mnP p c : Rat) + ((mxP p c - mnP p c : Int) : Rat) * Wp ((j + 2 + 4 * a) % 6) f) :
    let r := frF (p 0) u; let g := frF (p 1) u; let b := frF (p 2) u
    Float64.isZero (maxF r g b) = false ∧ (Float64.cmp (satV r g b) c0 == some .eq) = false ∧ Float64.isFinite (Float64.mul h' c6) = true ∧ (secF h').natAbs < 2 ^ 1023 ∧
    ∃ x y z, hsvOut ((secF h').fmod 6) h' (satV r g b) (maxF r g b) = [.flt x, .flt y, .flt z] ∧ RndOk x u (q 0) ∧ RndOk y u (q 1) ∧ RndOk z u (q 2) := by
  intro r g b
  have t := h.tri
  have hM := h.mx
  have hpp := e0_pos
  have hsm := e0_small
  have hM0 : 0 < mxP p c := by omega
  refine ⟨t.dM.isZero (by omega), ?_⟩
  obtain ⟨σ, es, s0, s1, ns⟩ := Dy.div t.rng t.dM hM0 (by omega) (by omega)
  have hMr : (0 : Rat) < (mxP p c : Rat) := by exact_mod_cast hM0
  have hMl : (mxP p c : Rat) ≤ 1024 := by have := cast_le (show mxP p c ≤ 1024 by omega); exact this
  have hD1 : (1 : Rat) ≤ ((mxP p c - mnP p c : Int) : Rat) := by have := cast_le (show 1 ≤ mxP p c - mnP p c by omega); exact this
  refine ⟨?_, ?_⟩
  · have hsf : Fi (satV r g b) := ns.1
    rw [cmp_eq_iff hsf n0.1, decide_eq_false]
    have h1 : σ - e0 ≤ Rv (satV r g b) := ns.2.1
    have h2 := n0.2
    have h3 : 1 ≤ σ * 1024 := by
      have := Rat.mul_nonneg s0 (show (0 : Rat) ≤ 1024 - (mxP p c : Rat) by grind)
      grind
    grind
  have := hsv_near (h := h') (s := satV r g b) (v := maxF r g b) (V := (mxP p c : Rat) / 1024) (σ := σ) t.dM.near (by grind) (by grind) ns s0 s1 hj f0 f1 hh lo hi
  obtain ⟨a1, a2, x, y, z, el, nx, ny, nz⟩ := this
  refine ⟨a1, a2, x, y, z, el, ?_⟩
  have hD : ((mxP p c - mnP p c : Int) : Rat) = (mxP p c : Rat) - (mnP p c : Rat) := Rat.intCast_sub _ _
  have tr : ∀ W : Rat, (mxP p c : Rat) / 1024 * (1 - σ) + (mxP p c : Rat) / 1024 * σ * W = ((mnP p c : Rat) + ((mxP p c - mnP p c : Int) : Rat) * W) / 1024 := by
    intro W
    rw [← es]
    have : (mnP p c : Rat) = (mxP p c : Rat) - σ * (mxP p c : Rat) := by rw [es, hD]; grind
    rw [this]
    grind
  rw [tr] at nx ny nz
  obtain ⟨q00, q01, q02⟩ := hq 0 (by decide)
  obtain ⟨q10, q11, q12⟩ := hq 1 (by decide)
  obtain ⟨q20, q21, q22⟩ := hq 2 (by decide)
  have e1 : (j + 2 + 4 * 1) % 6 = j := by omega
  have e2 : (j + 2 + 4 * 2) % 6 = (j + 4) % 6 := by omega
  rw [e1] at q12
  rw [e2] at q22
  exact ⟨rnd_of nx h.uc q00 (Int.le_of_lt q01) q02.symm, rnd_of ny h.uc q10 (Int.le_of_lt q11) q12.symm, rnd_of nz h.uc q20 (Int.le_of_lt q21) q22.symm⟩

/-- the way back through hls -/
theorem Parts.backL (h : Parts p u c) (e : mnP p c ≠ mxP p c) {h' : UInt64} {j : Nat} {f : Rat} {n : Int} (hj : j < 6) (f0 : 0 ≤ f) (f1 : f ≤ 1) (hh : Near h' (((j : Nat) : Rat) / 6 + f / 6 + (n : Rat)) (50 * e0)) (lo : -8 ≤ Rv h') (hi : Rv h' ≤ 8) {q : Nat → Int}
    (hq : ∀ a, a < 3 → 0 ≤ q a ∧ q a < u ∧ (q a : Rat) * ((c : Nat) : Rat) = (mnP p c : Rat) + ((mxP p c - mnP p c : Int) : Rat) * Wp ((j + 2 + 4 * a) % 6) f) :
    let r := frF (p 0) u; let g := frF (p 1) u; let b := frF (p 2) u; let l := lightF r g b; let s := satF r g b
    Float64.isZero (denF r g b) = false ∧ (Float64.cmp (satF r g b) c0 == some .eq) = false ∧
    RndOk (vF (m1F l s) (m2F l s) (Float64.add h' cThird)) u (q 0) ∧ RndOk (vF (m1F l s) (m2F l s) h') u (q 1) ∧ RndOk (vF (m1F l s) (m2F l s) (Float64.sub h' cThird)) u (q 2) := by
  intro r g b l s
  have t := h.tri
  have hM := h.mx
  have hpp := e0_pos
  have hsm := e0_small
  obtain ⟨z1, z2, w1, w2⟩ := t.ends e (by omega)
  refine ⟨z1, z2, ?_⟩
  have hm0 : (0 : Rat) ≤ (mnP p c : Rat) := by exact_mod_cast hM.1
  have hmM : (mnP p c : Rat) ≤ (mxP p c : Rat) := cast_le hM.2.1
  have hMl : (mxP p c : Rat) ≤ 1024 := by have := cast_le (show mxP p c ≤ 1024 by omega); exact this
  have hD : ((mxP p c - mnP p c : Int) : Rat) = (mxP p c : Rat) - (mnP p c : Rat) := Rat.intCast_sub _ _
  have tr : ∀ W : Rat, (mnP p c : Rat) / 1024 + ((mxP p c : Rat) / 1024 - (mnP p c : Rat) / 1024) * W = ((mnP p c : Rat) + ((mxP p c - mnP p c : Int) : Rat) * W) / 1024 := by
    intro W; rw [hD]; grind
  have go : ∀ {x : UInt64} {i : Nat} {k : Int} {a : Nat}, a < 3 → i < 6 → i = (j + 2 + 4 * a) % 6 → Near x (((i : Nat) : Rat) / 6 + f / 6 + (k : Rat)) (60 * e0) → RndOk (vF (m1F l s) (m2F l s) x) u (q a) := by
    intro x i k a ha hi ei hx
    have nv := v_near w1 w2 (by grind) (by grind) (by grind) hi f0 f1 hx
    rw [tr] at nv
    obtain ⟨q0, q1, q2⟩ := hq a ha
    rw [← ei] at q2
    exact rnd_of (nv.mono (by grind)) h.uc q0 (Int.le_of_lt q1) q2.symm
  have hh2 : Near h' (((j : Nat) : Rat) / 6 + f / 6 + (n : Rat)) (50 * e0) := hh
  obtain ⟨hf, h1, h2⟩ := hh
  have hjr : ((j : Nat) : Rat) ≤ 5 := by have := Rat.natCast_le_natCast.mpr (show j ≤ 5 by omega); exact this
  have hj0 : (0 : Rat) ≤ ((j : Nat) : Rat) := by exact_mod_cast Nat.zero_le j
  -- up by a third
  have up := Near.add hh2 nThird (by grind) (by grind) (by grind) (by grind)
  have dn := Near.sub hh2 nThird (by grind) (by grind) (by grind) (by grind)
  refine ⟨?_, ?_, ?_⟩
  · by_cases c : j < 4
    · refine go (i := j + 2) (k := n) (by decide) (by omega) (by omega) ?_
      have : ((j + 2 : Nat) : Rat) / 6 + f / 6 + (n : Rat) = ((j : Nat) : Rat) / 6 + f / 6 + (n : Rat) + 1 / 3 := by rw [Rat.natCast_add]; have : ((2 : Nat) : Rat) = 2 := rfl; rw [this]; grind
      rw [this]; exact up.mono (by grind)
    · refine go (i := j - 4) (k := n + 1) (by decide) (by omega) (by omega) ?_
      have : ((j - 4 : Nat) : Rat) / 6 + f / 6 + ((n + 1 : Int) : Rat) = ((j : Nat) : Rat) / 6 + f / 6 + (n : Rat) + 1 / 3 := by
        have e4 : ((j - 4 : Nat) : Rat) + 4 = ((j : Nat) : Rat) := by have := Rat.natCast_add (j - 4) 4; rw [show j - 4 + 4 = j by omega] at this; exact this.symm
        rw [Rat.intCast_add]; have : ((1 : Int) : Rat) = 1 := rfl; rw [this]; grind
      rw [this]; exact up.mono (by grind)
  · exact go (i := j) (k := n) (by decide) hj (by omega) (hh2.mono (by grind))
  · by_cases c : 2 ≤ j
    · refine go (i := j - 2) (k := n) (by decide) (by omega) (by omega) ?_
      have : ((j - 2 : Nat) : Rat) / 6 + f / 6 + (n : Rat) = ((j : Nat) : Rat) / 6 + f / 6 + (n : Rat) - 1 / 3 := by
        have e4 : ((j - 2 : Nat) : Rat) + 2 = ((j : Nat) : Rat) := by have := Rat.natCast_add (j - 2) 2; rw [show j - 2 + 2 = j by omega] at this; exact this.symm
        grind
      rw [this]; exact dn.mono (by grind)
    · refine go (i := j + 4) (k := n - 1) (by decide) (by omega) (by omega) ?_
      have : ((j + 4 : Nat) : Rat) / 6 + f / 6 + ((n - 1 : Int) : Rat) = ((j : Nat) : Rat) / 6 + f / 6 + (n : Rat) - 1 / 3 := by rw [Rat.natCast_add, Rat.intCast_sub]; have : ((4 : Nat) : Rat) = 4 := rfl; rw [this]; have : ((1 : Int) : Rat) = 1 := rfl; rw [this]; grind
      rw [this]; exact dn.mono (by grind)
end Mine
end
section
open PySem PySem.Float64
set_option linter.unusedVariables false
set_option maxRecDepth 10000
namespace Mine
variable {p : Nat → Int} {u c : Nat}

/-- both ends of the rng -/
theorem Parts.rng0 (h : Parts p u c) (e : mnP p c ≠ mxP p c) : Float64.isZero (rngF (frF (p 0) u) (frF (p 1) u) (frF (p 2) u)) = false := h.tri.rng.isZero (by omega)
theorem Parts.grey (h : Parts p u c) : greyF (frF (p 0) u) (frF (p 1) u) (frF (p 2) u) = decide (mnP p c = mxP p c) := h.tri.grey
theorem Parts.greyV (h : Parts p u c) (e : mnP p c = mxP p c) : RndOk (maxF (frF (p 0) u) (frF (p 1) u) (frF (p 2) u)) u (p 0) := by
  have h0 := h.le 0 (by decide)
  have a := (h.alike e 0 (by decide)).2
  have hpp := e0_pos
  have t := h.tri
  have := t.dM.near
  rw [← a] at this
  refine rnd_of (this.mono (by grind)) h.uc h0.1 (Int.le_of_lt h0.2) ?_
  rw [Rat.intCast_mul, Rat.intCast_natCast]
theorem Parts.greyL (h : Parts p u c) (e : mnP p c = mxP p c) : RndOk (lightF (frF (p 0) u) (frF (p 1) u) (frF (p 2) u)) u (p 0) := by
  have h0 := h.le 0 (by decide)
  have a := (h.alike e 0 (by decide)).2
  have hpp := e0_pos
  have t := h.tri
  have hM := h.mx
  have d2 : Dy c2 2048 := ⟨n2.1, by have : val c2 = 2048 * ((2 ^ 1064 : Nat) : Int) := by decide +kernel
                                    exact this⟩
  obtain ⟨l, el, l0, l1, nl⟩ := Dy.div (t.dM.add t.dm (by omega)) d2 (by omega) (by omega) (by omega)
  have el2 : l = ((mxP p c : Int) : Rat) / 1024 := by
    rw [e, Rat.intCast_add] at el
    have e2 : ((2048 : Int) : Rat) = 2048 := rfl
    rw [e2] at el; grind
  rw [el2, ← a] at nl
  refine rnd_of (Near.mono nl (by grind)) h.uc h0.1 (Int.le_of_lt h0.2) ?_
  rw [Rat.intCast_mul, Rat.intCast_natCast]
theorem c0_eq : (Float64.cmp c0 c0 == some .eq) = true := by decide +kernel

/-- the mirrored hue, in sextants -/
theorem HueP.mir {x : UInt64} {j : Nat} {f : Rat} {n : Int} (k : HueP x p c j f n) (h : Parts p u c) {g : Nat} (hg : g < 3) : ∀ a, a < 3 → 0 ≤ p ((2 * g + 2 * a) % 3) ∧ p ((2 * g + 2 * a) % 3) < u ∧
    (p ((2 * g + 2 * a) % 3) : Rat) * ((c : Nat) : Rat) = (mnP p c : Rat) + ((mxP p c - mnP p c : Int) : Rat) * Wp (((4 * g + 5 - j) % 6 + 2 + 4 * a) % 6) (1 - f) := by
  intro a ha
  have hb : (2 * g + 2 * a) % 3 < 3 := Nat.mod_lt _ (by decide)
  have l := h.le _ hb
  have jl := k.jl
  refine ⟨l.1, l.2, ?_⟩
  have := k.lamp _ hb
  rw [this, Wp_sym (Nat.mod_lt _ (by decide))]
  congr 3
  omega
theorem mir_near {j g : Nat} (hj : j < 6) (hg : g < 3) (f : Rat) (n : Int) : ∃ k : Int, ((((4 * g + 5 - j) % 6 : Nat)) : Rat) / 6 + (1 - f) / 6 + (k : Rat) = ((2 * g : Nat) : Rat) / 3 - (((j : Nat) : Rat) / 6 + f / 6 - (n : Rat)) := by
  refine ⟨((4 * g + 5 - j) / 6 : Nat) + n - 1 + 0, ?_⟩
  have hdm : 6 * ((((4 * g + 5 - j) / 6 : Nat)) : Rat) + ((((4 * g + 5 - j) % 6 : Nat)) : Rat) + ((j : Nat) : Rat) = 4 * ((g : Nat) : Rat) + 5 := by
    have h1 : 6 * ((4 * g + 5 - j) / 6) + (4 * g + 5 - j) % 6 + j = 4 * g + 5 := by have := Nat.div_add_mod (4 * g + 5 - j) 6; omega
    have := congrArg (fun k : Nat => ((k : Nat) : Rat)) h1
    simp only [Rat.natCast_add, Rat.natCast_mul] at this
    exact this
  have e1 : ((1 : Int) : Rat) = 1 := rfl
  have e0' : ((0 : Int) : Rat) = 0 := rfl
  have e2 : ((2 : Nat) : Rat) = 2 := rfl
  rw [Rat.intCast_add, Rat.intCast_sub, Rat.intCast_add, Rat.intCast_natCast, Rat.natCast_mul, e1, e2, e0']
  grind
/-- mirrored at a corner through hls -/
theorem Parts.mirL (h : Parts p u c) (e : mnP p c ≠ mxP p c) {g₀ : Nat} (hg : g₀ < 3) :
    let r := frF (p 0) u; let g := frF (p 1) u; let b := frF (p 2) u; let l := lightF r g b; let s := satF r g b; let h' := Float64.sub (frF ((2 * g₀ : Nat) : Int) 3) (hueF r g b)
    Float64.isZero (denF r g b) = false ∧ (Float64.cmp (satF r g b) c0 == some .eq) = false ∧
    RndOk (vF (m1F l s) (m2F l s) (Float64.add h' cThird)) u (p ((2 * g₀ + 2 * 0) % 3)) ∧ RndOk (vF (m1F l s) (m2F l s) h') u (p ((2 * g₀ + 2 * 1) % 3)) ∧ RndOk (vF (m1F l s) (m2F l s) (Float64.sub h' cThird)) u (p ((2 * g₀ + 2 * 2) % 3)) := by
  obtain ⟨j, f, n, k⟩ := h.hue e
  have hpp := e0_pos
  have hsm := e0_small
  have jl := k.jl
  have f0 := k.f0
  have f1 := k.f1
  have lo := k.lo
  have hi := k.hi
  have nr := k.near
  have ht2 : ((2 * g₀ : Nat) : Rat) ≤ 4 := by have := Rat.natCast_le_natCast.mpr (show 2 * g₀ ≤ 4 by omega); exact this
  have ht0 : (0 : Rat) ≤ ((2 * g₀ : Nat) : Rat) := by exact_mod_cast Nat.zero_le (2 * g₀)
  have n3 := frF_third (t := 2 * g₀) (by omega)
  have hsub := sub_near n3.1 nr.1 (by have := n3.2; grind) (by have := n3.2; grind)
  have hsum := Near.sub n3 nr (by grind) (by grind) (by have := nr.2; have := n3.2; grind) (by have := nr.2; have := n3.2; grind)
  obtain ⟨n', hn'⟩ := mir_near jl hg f n
  refine h.backL e (j := (4 * g₀ + 5 - j) % 6) (f := 1 - f) (n := n') (Nat.mod_lt _ (by decide)) (by grind) (by grind) ?_ (by have := hsub.2; have := n3.2; grind) (by have := hsub.2; have := n3.2; grind) (q := fun a => p ((2 * g₀ + 2 * a) % 3)) (k.mir h hg)
  rw [hn']
  exact hsum.mono (by grind)
/-- mirrored at a corner through hsv, the hue by its remainder -/
theorem Parts.mirV (h : Parts p u c) (e : mnP p c ≠ mxP p c) {g₀ : Nat} (hg : g₀ < 3) :
    let r := frF (p 0) u; let g := frF (p 1) u; let b := frF (p 2) u; let h' := modF (Float64.sub (frF ((2 * g₀ : Nat) : Int) 3) (hueF r g b))
    Float64.isZero (maxF r g b) = false ∧ (Float64.cmp (satV r g b) c0 == some .eq) = false ∧ Float64.isFinite (Float64.mul h' c6) = true ∧ (secF h').natAbs < 2 ^ 1023 ∧
    ∃ x y z, hsvOut ((secF h').fmod 6) h' (satV r g b) (maxF r g b) = [.flt x, .flt y, .flt z] ∧ RndOk x u (p ((2 * g₀ + 2 * 0) % 3)) ∧ RndOk y u (p ((2 * g₀ + 2 * 1) % 3)) ∧ RndOk z u (p ((2 * g₀ + 2 * 2) % 3)) := by
  obtain ⟨j, f, n, k⟩ := h.hue e
  have hpp := e0_pos
  have hsm := e0_small
  have jl := k.jl
  have f0 := k.f0
  have f1 := k.f1
  have lo := k.lo
  have hi := k.hi
  have nr := k.near
  have ht2 : ((2 * g₀ : Nat) : Rat) ≤ 4 := by have := Rat.natCast_le_natCast.mpr (show 2 * g₀ ≤ 4 by omega); exact this
  have ht0 : (0 : Rat) ≤ ((2 * g₀ : Nat) : Rat) := by exact_mod_cast Nat.zero_le (2 * g₀)
  have n3 := frF_third (t := 2 * g₀) (by omega)
  have hsum := Near.sub n3 nr (by grind) (by grind) (by have := nr.2; have := n3.2; grind) (by have := nr.2; have := n3.2; grind)
  obtain ⟨n', hn'⟩ := mir_near jl hg f n
  obtain ⟨m, ⟨mf, m1, m2⟩, mlo, mhi⟩ := modF_near hsum.1
  refine h.backV e (j := (4 * g₀ + 5 - j) % 6) (f := 1 - f) (n := n' - m) (Nat.mod_lt _ (by decide)) (by grind) (by grind) ?_ (by grind) (by grind) (q := fun a => p ((2 * g₀ + 2 * a) % 3)) (k.mir h hg)
  rw [← hn'] at hsum
  refine ⟨mf, ?_, ?_⟩
  · rw [Rat.intCast_sub]; have := hsum.2; grind
  · rw [Rat.intCast_sub]; have := hsum.2; grind
end Mine
end
section
open PySem PySem.Float64
set_option linter.unusedVariables false
set_option maxRecDepth 10000
namespace Mine
variable {p : Nat → Int} {u c : Nat}

def pegF (x : UInt64) : UInt64 := Float64.add (Float64.mul x c3) cHalf

theorem peg_lin {e : Rat} (he : 0 < e) (hs : e * 1000000000000 ≤ 1) {j k g : Nat} (hj : j < 6) (hk : k < 4) (hg : g < 3) {f : Rat} (f0 : 0 ≤ f) (f1 : f ≤ 1)
    (h1 : 2 * ((k : Nat) : Rat) - 1 - 100 * e ≤ ((j : Nat) : Rat) + f) (h2 : ((j : Nat) : Rat) + f ≤ 2 * ((k : Nat) : Rat) + 1 + 100 * e)
    (w0 : Wp ((j + 2 + 4 * g) % 6) f = 1) (w1 : ∀ a, a < 3 → a ≠ g → Wp ((j + 2 + 4 * a) % 6) f ≤ 1 - 1/1024) : k % 3 = g := by
  have W0 : ∀ t, Wp 0 t = t := fun _ => rfl
  have W1 : ∀ t, Wp 1 t = 1 := fun _ => rfl
  have W2 : ∀ t, Wp 2 t = 1 := fun _ => rfl
  have W3 : ∀ t, Wp 3 t = 1 - t := fun _ => rfl
  have W4 : ∀ t, Wp 4 t = 0 := fun _ => rfl
  have W5 : ∀ t, Wp 5 t = 0 := fun _ => rfl
  have a0 := w1 0 (by decide)
  have a1 := w1 1 (by decide)
  have a2 := w1 2 (by decide)
  have k4 : k = 0 ∨ k = 1 ∨ k = 2 ∨ k = 3 := by omega
  have c0 : ((0 : Nat) : Rat) = 0 := rfl
  have c1 : ((1 : Nat) : Rat) = 1 := rfl
  have c2 : ((2 : Nat) : Rat) = 2 := rfl
  have c3 : ((3 : Nat) : Rat) = 3 := rfl
  have c4 : ((4 : Nat) : Rat) = 4 := rfl
  have c5 : ((5 : Nat) : Rat) = 5 := rfl
  clear w1
  rcases three hg with rfl | rfl | rfl <;> rcases six hj with rfl | rfl | rfl | rfl | rfl | rfl <;>
    simp only [Nat.reduceAdd, Nat.reduceMul, Nat.reduceMod, W0, W1, W2, W3, W4, W5, ne_eq, Nat.reduceEqDiff, not_true_eq_false, not_false_eq_true, false_implies, true_implies, c0, c1, c2, c3, c4, c5] at w0 a0 a1 a2 h1 h2 <;>
    first
    | (exfalso; grind)
    | (rcases k4 with rfl | rfl | rfl | rfl <;> first | rfl | (exfalso; simp only [c0, c1, c2, c3] at h1 h2; grind))

/-- the nearest corner is the greatest lamp's -/
theorem Parts.peg (h : Parts p u c) {g : Nat} (hg : g < 3) (hmax : ∀ a, a < 3 → a ≠ g → p a < p g) :
    let x := hueF (frF (p 0) u) (frF (p 1) u) (frF (p 2) u)
    Float64.isFinite (pegF x) = true ∧ (toI (pegF x)).fmod 3 = (g : Int) := by
  intro x
  have hc := h.cpos
  have hm := h.mx
  have hci : (0 : Int) < (c : Int) := by omega
  have lt : ∀ a, a < 3 → a ≠ g → p a * c < p g * c := fun a ha hn => Int.mul_lt_mul_of_pos_right (hmax a ha hn) hci
  have hgM : p g * c = mxP p c := by
    have l0 := lt 0 (by decide); have l1 := lt 1 (by decide); have l2 := lt 2 (by decide)
    unfold mxP
    rcases three hg with rfl | rfl | rfl <;> simp at l0 l1 l2 <;> omega
  have e : mnP p c ≠ mxP p c := by
    intro e
    have q := h.alike e
    have l0 := hmax 0 (by decide); have l1 := hmax 1 (by decide)
    have q1 := (q 1 (by decide)).1
    have q2 := (q 2 (by decide)).1
    rcases three hg with rfl | rfl | rfl <;> simp at l0 l1 <;> omega
  obtain ⟨j, f, n, k⟩ := h.hue e
  have hpp := e0_pos
  have hsm := e0_small
  have jl := k.jl
  have f0 := k.f0
  have f1 := k.f1
  have lo := k.lo
  have hi := k.hi
  have nr := k.near
  have p1 := Near.mul (k := 40 * e0) nr n3 (R := 2) (T := 3) (by have := nr.2; grind) (by have := nr.2; grind) (by grind) (by grind) (by grind) (by grind)
  have p2 := Near.add p1 nHalf (by grind) (by grind) (by have := nr.2; grind) (by have := nr.2; grind)
  have m3 := mul_near nr.1 n3.1 (by have := n3.2; have : Rv c3 = 3 := by grind
                                    rw [this]; grind) (by have := n3.2; have : Rv c3 = 3 := by grind
                                                          rw [this]; grind)
  have h3 : Rv c3 = 3 := by have := n3.2; grind
  rw [h3] at m3
  have hh : Rv cHalf = 1/2 := by have := nHalf.2; grind
  have a3 := add_near m3.1 nHalf.1 (by rw [hh]; grind) (by rw [hh]; grind)
  rw [hh] at a3
  refine ⟨p2.1.fin, ?_⟩
  obtain ⟨i, ei, i1, i2⟩ := toI_ex p2.1 (by have := a3.2; grind)
  have epeg : toI (pegF x) = (i : Int) := ei
  rw [epeg]
  have i3 : ((i : Nat) : Rat) ≤ Rv (Float64.add (Float64.mul x c3) cHalf) := by
    rcases i2 with h | ⟨h, h'⟩
    · exact h
    · exfalso; have := a3.2; grind
  have hjr : ((j : Nat) : Rat) ≤ 5 := by have := Rat.natCast_le_natCast.mpr (show j ≤ 5 by omega); exact this
  have hj0 : (0 : Rat) ≤ ((j : Nat) : Rat) := by exact_mod_cast Nat.zero_le j
  have hi0 : (0 : Rat) ≤ ((i : Nat) : Rat) := by exact_mod_cast Nat.zero_le i
  have ek : (((i : Int) + 3 * n : Int) : Rat) = ((i : Nat) : Rat) + 3 * (n : Rat) := by rw [Rat.intCast_add, Rat.intCast_mul, Rat.intCast_natCast]; rfl
  have b1 : 2 * (((i : Nat) : Rat) + 3 * (n : Rat)) - 1 - 100 * e0 ≤ ((j : Nat) : Rat) + f := by have := p2.2; grind
  have b2 : ((j : Nat) : Rat) + f ≤ 2 * (((i : Nat) : Rat) + 3 * (n : Rat)) + 1 + 100 * e0 := by have := p2.2; grind
  have k0 : ((-1 : Int) : Rat) < (((i : Int) + 3 * n : Int) : Rat) := by rw [ek]; have : ((-1 : Int) : Rat) = -1 := rfl; rw [this]; grind
  have k1 : (((i : Int) + 3 * n : Int) : Rat) < ((4 : Int) : Rat) := by rw [ek]; have : ((4 : Int) : Rat) = 4 := rfl; rw [this]; grind
  have k0' := Rat.intCast_lt_intCast.mp k0
  have k1' := Rat.intCast_lt_intCast.mp k1
  have et : ((((i : Int) + 3 * n).toNat : Nat) : Rat) = ((i : Nat) : Rat) + 3 * (n : Rat) := by
    rw [← ek, ← Rat.intCast_natCast]; congr 1; omega
  have hD1 : (0 : Rat) < ((mxP p c - mnP p c : Int) : Rat) := by exact_mod_cast (show (0 : Int) < mxP p c - mnP p c by omega)
  have hD2 : ((mxP p c - mnP p c : Int) : Rat) ≤ 1024 := by have := cast_le (show mxP p c - mnP p c ≤ 1024 by omega); exact this
  have hDe : ((mxP p c - mnP p c : Int) : Rat) = (mxP p c : Rat) - (mnP p c : Rat) := Rat.intCast_sub _ _
  have ec : ((c : Int) : Rat) = ((c : Nat) : Rat) := Rat.intCast_natCast c
  have key := peg_lin hpp hsm jl (k := ((i : Int) + 3 * n).toNat) (g := g) (by omega) hg f0 f1 (by rw [et]; exact b1) (by rw [et]; exact b2) ?_ ?_
  · rw [Int.fmod_eq_emod_of_nonneg _ (by decide)]; omega
  · have l := k.lamp g hg
    have : (p g : Rat) * ((c : Nat) : Rat) = (mxP p c : Rat) := by rw [← hgM, Rat.intCast_mul, ec]
    rw [this] at l
    have h9 : (Wp ((j + 2 + 4 * g) % 6) f - 1) * ((mxP p c - mnP p c : Int) : Rat) = 0 := by grind
    rcases Rat.mul_eq_zero.mp h9 with h | h <;> grind
  · intro a ha hn
    have l := k.lamp a ha
    have hl := cast_le (show p a * c + 1 ≤ mxP p c by have := lt a ha hn; omega)
    rw [Rat.intCast_add, Rat.intCast_mul, ec] at hl
    have e1 : ((1 : Int) : Rat) = 1 := rfl
    rw [e1, l] at hl
    obtain ⟨w0, w1⟩ := Wp_bd (j := (j + 2 + 4 * a) % 6) f0 f1
    generalize Wp ((j + 2 + 4 * a) % 6) f = w at *
    have := Rat.mul_nonneg (show (0 : Rat) ≤ 1 - w by grind) (show (0 : Rat) ≤ 1024 - ((mxP p c - mnP p c : Int) : Rat) by grind)
    grind
end Mine
end
section
open PySem PyProof.Rows
set_option linter.unusedVariables false
namespace Mine
variable {C : PC} {k : Nat} {env : Env} {X : List Addr} {l : List (Str × D)} {v v' : Vals} {o o' : Own}

def tri (p : Nat → Int) : D := .list [.int (p 0), .int (p 1), .int (p 2)]
def pick3 (e0 e1 e2 : Int) : D → D
  | .int 0 => .int e0
  | .int 1 => .int e1
  | _ => .int e2
theorem pick3_all (e0 e1 e2 : Int) : ((nums (rng 0 1 3)).filter (fun _ => true)).map (pick3 e0 e1 e2) = [.int e0, .int e1, .int e2] := by
  unfold nums rng; rfl
theorem pick3_in {d : D} (h : d ∈ nums (rng 0 1 3)) : d = .int 0 ∨ d = .int 1 ∨ d = .int 2 := by
  have : nums (rng 0 1 3) = [.int 0, .int 1, .int 2] := by unfold nums rng; rfl
  rw [this] at h
  simpa using h
theorem Ev.comp3 {sc scope : Scope} {elt iter : PySem.Expr} {x : Str} {px pos : Pos} {lc : Vals} {e0 e1 e2 : Int}
    (fe : FEnv env sc) (hit : ItR C k env X l iter 0 1 3) (hcell : ∀ y ∈ scope.names, y.2 ≠ .cell) (hkind : scope.kind = .function) (hx : scope.names.lookup x = some .local)
    (hnames : ∀ y ∈ scope.names, y.2 = .local → scope.names.lookup y.1 = some .local)
    (hcl : ∀ y ∈ scope.names, y.2 = .free → sc.names.lookup y.1 = some .cell) (hcap : Caps l scope sc lc)
    (hs : ∀ x, foldedSetIterable iter env x = pure x)
    (b0 : ∀ env', CEnv env' scope env → Ev C k env' X ((x, .int 0) :: lc) elt (.int e0))
    (b1 : ∀ env', CEnv env' scope env → Ev C k env' X ((x, .int 1) :: lc) elt (.int e1))
    (b2 : ∀ env', CEnv env' scope env → Ev C k env' X ((x, .int 2) :: lc) elt (.int e2)) :
    Ev C k env X l (.ListComp elt [⟨.Name x px, iter, [], 0⟩] scope pos) (.list [.int e0, .int e1, .int e2]) := by
  rw [← pick3_all e0 e1 e2]
  refine Ev.comp (fun _ => true) (pick3 e0 e1 e2) fe (It.of_range hit) hcell hkind hx hnames hcl hcap (by decide) ?_ ?_ hs
  · intro d hd _
    rcases pick3_in hd with rfl | rfl | rfl <;> rfl
  · intro env' d hd ce
    refine ⟨rfl, fun _ => ?_⟩
    rcases pick3_in hd with rfl | rfl | rfl
    · exact b0 env' ce
    · exact b1 env' ce
    · exact b2 env' ce
theorem Ex.comp3 {sc scope : Scope} {elt iter : PySem.Expr} {y x : Str} {py px pos spos : Pos} {lc : Vals} {e0 e1 e2 : Int}
    (fe : FEnv env sc) (hit : ∀ X, ItR C k env X v iter 0 1 3) (hcell : ∀ y ∈ scope.names, y.2 ≠ .cell) (hkind : scope.kind = .function) (hx : scope.names.lookup x = some .local)
    (hnames : ∀ y ∈ scope.names, y.2 = .local → scope.names.lookup y.1 = some .local)
    (hcl : ∀ y ∈ scope.names, y.2 = .free → sc.names.lookup y.1 = some .cell) (hcap : Caps v scope sc lc)
    (hs : ∀ x, foldedSetIterable iter env x = pure x) (hy : Sto env y) (ho : ∀ p ∈ o, p.1 ≠ y)
    (b0 : ∀ X env', CEnv env' scope env → Ev C k env' X ((x, .int 0) :: lc) elt (.int e0))
    (b1 : ∀ X env', CEnv env' scope env → Ev C k env' X ((x, .int 1) :: lc) elt (.int e1))
    (b2 : ∀ X env', CEnv env' scope env → Ev C k env' X ((x, .int 2) :: lc) elt (.int e2)) :
    Ex C k env v o (.Assign [.Name y py] (.ListComp elt [⟨.Name x px, iter, [], 0⟩] scope pos) spos) ((y, .list [.int e0, .int e1, .int e2]) :: v) o := by
  have hex : ∃ b : Bool, swapsWith (.ListComp elt [⟨.Name x px, iter, [], 0⟩] scope pos) (some (.Name y py)) spos.line env = pure b := ⟨_, rfl⟩
  obtain ⟨b, hsw⟩ := hex
  cases b with
  | false => exact Ex.assign (fun X => Ev.comp3 fe (hit X) hcell hkind hx hnames hcl hcap hs (b0 X) (b1 X) (b2 X)) hy ho hsw
  | true =>
    rw [← pick3_all e0 e1 e2]
    refine Ex.assignComp (fun _ => true) (pick3 e0 e1 e2) fe (fun X => It.of_range (hit X)) hcell hkind hx hnames hcl hcap (by decide) ?_ ?_ hs hy ho hsw
    · intro d hd _
      rcases pick3_in hd with rfl | rfl | rfl <;> rfl
    · intro X env' d hd ce
      refine ⟨rfl, fun _ => ?_⟩
      rcases pick3_in hd with rfl | rfl | rfl
      · exact b0 X env' ce
      · exact b1 X env' ce
      · exact b2 X env' ce
theorem Ex.tup3 {x1 x2 x3 : Str} {p1 p2 p3 tp pos : Pos} {n : Nat} {e : PySem.Expr} {d1 d2 d3 : D} (h : ∀ X, Ev C k env X v e (.tup [d1, d2, d3])) (h1 : Sto env x1) (h2 : Sto env x2) (h3 : Sto env x3) (ho : o = [])
    (hs : swapsWithSole [.Tuple [.Name x1 p1, .Name x2 p2, .Name x3 p3] n tp] e pos.line env = pure false) (hw : swappedStores [.Tuple [.Name x1 p1, .Name x2 p2, .Name x3 p3] n tp] e env = pure none) :
    Ex C k env v o (.Assign [.Tuple [.Name x1 p1, .Name x2 p2, .Name x3 p3] n tp] e pos) ((x3, d3) :: (x2, d2) :: (x1, d1) :: v) o := by
  subst ho
  exact Ex.assignTup (xs := [(x1, p1), (x2, p2), (x3, p3)]) h (by intro x hx; simp only [List.mem_cons, List.mem_nil_iff, or_false] at hx; rcases hx with rfl | rfl | rfl <;> assumption) (by intro x hx q hq; cases hq) rfl hs hw
theorem Ex.tup2 {x1 x2 : Str} {p1 p2 tp pos : Pos} {n : Nat} {e : PySem.Expr} {d1 d2 : D} (h : ∀ X, Ev C k env X v e (.tup [d1, d2])) (h1 : Sto env x1) (h2 : Sto env x2) (ho : ∀ q ∈ o, q.1 ≠ x1 ∧ q.1 ≠ x2)
    (hs : swapsWithSole [.Tuple [.Name x1 p1, .Name x2 p2] n tp] e pos.line env = pure false) (hw : swappedStores [.Tuple [.Name x1 p1, .Name x2 p2] n tp] e env = pure none) :
    Ex C k env v o (.Assign [.Tuple [.Name x1 p1, .Name x2 p2] n tp] e pos) ((x2, d2) :: (x1, d1) :: v) o :=
  Ex.assignTup (o := o) (xs := [(x1, p1), (x2, p2)]) h (by intro x hx; simp only [List.mem_cons, List.mem_nil_iff, or_false] at hx; rcases hx with rfl | rfl <;> assumption) (by intro x hx q hq; simp only [List.mem_cons, List.mem_nil_iff, or_false] at hx; rcases hx with rfl | rfl <;> first | exact (ho q hq).1 | exact (ho q hq).2) rfl hs hw
theorem Ev.ifI {t a b : PySem.Expr} {pos : Pos} {c : Bool} {i j : Int} (h : IsT C k env X l t c) (ha : Ev C k env X l a (.int i)) (hb : Ev C k env X l b (.int j)) : Ev C k env X l (.IfExp t a b pos) (.int (if c = true then i else j)) := by
  cases c
  · exact Ev.ifF h hb
  · exact Ev.ifT h ha
end Mine
end
section
open PySem PySem.W PyProof.Rows
set_option linter.unusedVariables false
namespace Mine
theorem canon_of {b c : UInt64} (h : canon b = c) (hc : Float64.isNaN c = false) : b = c := by
  unfold canon at h
  split at h
  · subst h; exact absurd hc (by decide +kernel)
  · exact h
theorem lit_flt {lv : List (Str × WData)} {mg : Str → Option Value} {h : Heap} {x : Str} {c : UInt64} (V : LooseAre lv mg h) (hm : (x, WData.float c) ∈ lv) (hc : Float64.isNaN c = false) : ∃ t, mg x = some (.float c t) := by
  obtain ⟨v, h1, h2⟩ := V.val _ hm
  obtain ⟨b', t, rfl, h3, _⟩ := readsW_float_inv h2
  exact ⟨t, by rw [h1, canon_of h3 hc]⟩
def bltNames : List Str := [Str.ofString "len", Str.ofString "max", Str.ofString "min", Str.ofString "sum", Str.ofString "sorted", Str.ofString "int", Str.ofString "range", Str.ofString "enumerate"]
theorem ctx_of {C : PC} {V P : Program} {loose : List Str} {mean : ExcName → Option Value} (T : Top V loose mean C.mg C.mb C.base) (e : recsOf V = recsOf P)
    (hf : ∀ x ∈ bltNames, x ∉ startupNames ∧ x ∉ loose ∧ x ∉ (recsOf V).map (·.name) ∧ x ∉ (litsOf V).map (·.1) ∧ x ∉ (clssOf V loose).map (·.name))
    (t1 : ∃ t, C.mg (Str.ofString "ONE_THIRD") = some (.float 4599676419421066581 t)) (t2 : ∃ t, C.mg (Str.ofString "ONE_SIXTH") = some (.float 4595172819793696085 t)) (t3 : ∃ t, C.mg (Str.ofString "TWO_THIRD") = some (.float 4604180019048437077 t)) : Ctx C P := by
  have b : ∀ x ∈ bltNames, ∀ v, x ≠ "__name__" → bootBuiltins x = some v → Blt C x v := fun x hx v hne hv =>
    ⟨let ⟨a, b, c, d, e⟩ := hf x hx; T.free x a b c d e, by rw [T.builtins x hne]; exact hv⟩
  refine ⟨fun d hd => ⟨T.fn d (by rw [e]; exact hd)⟩, b _ (by decide +kernel) _ (by decide +kernel) (by kernel_rfl), b _ (by decide +kernel) _ (by decide +kernel) (by kernel_rfl), b _ (by decide +kernel) _ (by decide +kernel) (by kernel_rfl), b _ (by decide +kernel) _ (by decide +kernel) (by kernel_rfl), b _ (by decide +kernel) _ (by decide +kernel) (by kernel_rfl), b _ (by decide +kernel) _ (by decide +kernel) (by kernel_rfl), b _ (by decide +kernel) _ (by decide +kernel) (by kernel_rfl), b _ (by decide +kernel) _ (by decide +kernel) (by kernel_rfl), t1, t2, t3⟩
theorem ints_rep {X : List Addr} {h : Heap} {vs : List Value} {ns : List Int} (hi : IntsAre vs ns) : RepAll X h (nums ns) vs := by
  induction hi with
  | nil => exact RepAll.nil
  | cons n t _ ih => exact RepAll.cons (by simp only [Rep]; exact ⟨_, rfl⟩) ih
theorem law_end {C : PC} {j : Nat} (hj : j ≤ 20) {ns : List Int} (hc : Ctr C j (Str.ofString "law") [.list (nums ns)] (.bool true)) {fa : Addr} (hm : C.mg (Str.ofString "law") = some (.ref fa)) {s : Shared} (hs : C.base = s.heap) {a : Addr} {vs : List Value}
    (hL : s.heap.IsList a vs.toArray) (hI : IntsAre vs ns) {Q E : Value → Shared → Prop} (q : ∀ s', Kp s s' → Q (.bool true) s') : wpAny (model C.prog C.w) callerA (call (.ref fa) [.ref a]) Q E s := by
  obtain ⟨a', o, fd, hm', ho, hdat, hc⟩ := hc
  rw [hm] at hm'; cases hm'
  refine wpAny_mono (hc callerA s [] [.ref a] Q ?_ ?_ (fun _ h => absurd h List.not_mem_nil) ?_ fun v s' k r => ?_) (fun _ _ h => h) fun _ _ e => e.elim
  · refine ⟨rfl, ?_, ?_⟩
    · rw [depth_caller]; show 301 + j < 1000; omega
    · rw [units_caller, cLine_is]; omega
  · rw [hs]; exact Sub.refl _
  · refine RepAll.one ?_
    unfold Rep
    exact ⟨a, vs, rfl, List.not_mem_nil, hL, ints_rep hI⟩
  · simp only [Rep] at r; subst r; exact q s' k
end Mine
end
section
open PySem PySem.W PySem.Calls PyProof.Rows
set_option linter.unusedVariables false
set_option maxRecDepth 100000
namespace Mine
/-- the order of rows, from a place on -/
def ltF (x y : Nat → Int) : Nat → Nat → Bool
  | 0, _ => false
  | k + 1, i => if x i = y i then ltF x y k (i + 1) else decide (x i < y i)
def codeF (x : Nat → Int) : Nat → Nat → Int
  | 0, _ => 0
  | k + 1, i => x i * 3 ^ k + codeF x k (i + 1)
theorem codeF_bd {x : Nat → Int} (hx : ∀ i, 0 ≤ x i ∧ x i ≤ 2) : ∀ k i, 0 ≤ codeF x k i ∧ codeF x k i < 3 ^ k
  | 0, i => by unfold codeF; decide
  | k + 1, i => by
    have ih := codeF_bd hx k (i + 1)
    have h := hx i
    unfold codeF
    rw [Int.pow_succ]
    have : x i = 0 ∨ x i = 1 ∨ x i = 2 := by omega
    rcases this with e | e | e <;> rw [e] <;> omega
theorem ltF_code {x y : Nat → Int} (hx : ∀ i, 0 ≤ x i ∧ x i ≤ 2) (hy : ∀ i, 0 ≤ y i ∧ y i ≤ 2) : ∀ k i, ltF x y k i = decide (codeF x k i < codeF y k i)
  | 0, i => by unfold ltF codeF; decide
  | k + 1, i => by
    have ih := ltF_code hx hy k (i + 1)
    have bx := codeF_bd hx k (i + 1)
    have bY := codeF_bd hy k (i + 1)
    unfold ltF codeF
    by_cases e : x i = y i
    · rw [if_pos e, ih, e]; congr 1; rw [eq_iff_iff]; omega
    · rw [if_neg e]; congr 1; rw [eq_iff_iff]
      have h1 := hx i
      have h2 := hy i
      have p : (0 : Int) < 3 ^ k := Int.pow_pos (by decide)
      have e1 : x i = 0 ∨ x i = 1 ∨ x i = 2 := by omega
      have e2 : y i = 0 ∨ y i = 1 ∨ y i = 2 := by omega
      rcases e1 with e1 | e1 | e1 <;> rcases e2 with e2 | e2 | e2 <;> rw [e1, e2] at e ⊢ <;> omega
theorem codeF_inj {x y : Nat → Int} (hx : ∀ i, 0 ≤ x i ∧ x i ≤ 2) (hy : ∀ i, 0 ≤ y i ∧ y i ≤ 2) : ∀ k i, codeF x k i = codeF y k i → ∀ j, i ≤ j → j < i + k → x j = y j
  | 0, i, _, j, h1, h2 => by omega
  | k + 1, i, h, j, h1, h2 => by
    have bx := codeF_bd hx k (i + 1)
    have bY := codeF_bd hy k (i + 1)
    unfold codeF at h
    have p : (0 : Int) < 3 ^ k := Int.pow_pos (by decide)
    have e : x i = y i := by
      have h1 := hx i
      have h2 := hy i
      have e1 : x i = 0 ∨ x i = 1 ∨ x i = 2 := by omega
      have e2 : y i = 0 ∨ y i = 1 ∨ y i = 2 := by omega
      rcases e1 with e1 | e1 | e1 <;> rcases e2 with e2 | e2 | e2 <;> rw [e1, e2] at h ⊢ <;> omega
    by_cases hj : j = i
    · subst hj; exact e
    · exact codeF_inj hx hy k (i + 1) (by rw [e] at h; omega) j (by omega) (by omega)
end Mine
end
section
open PySem PySem.W PySem.Calls PyProof.Rows
open PySem.AutoSeq1 (wpAny_loadPart')
open PySem.MeetsSeq PySem.MeetsSeq2 PySem.MeetsSeq3 PySem.SeqRoads2 PySem.SeqAt
set_option linter.unusedVariables false
set_option maxRecDepth 100000
namespace Mine
theorem lt_loopAt (l b : Addr) (items items2 : Array Value) (n n2 : Nat) (dd dd2 : Option Addr) (sl sl2 : Array (Option Value)) (hsz : items.size = items2.size) (x y : Nat → Int)
    (hx : ∀ j (h : j < items.size), ∃ t, items[j] = .int (x j) t) (hy : ∀ j (h : j < items2.size), ∃ t, items2[j] = .int (y j) t) (k : Nat) :
    ∀ i : Nat, items.size - i = k → Meets (Builtin.«list.__eq__.loop» ⟨[.ref l, .ref b, rawInt i, rawInt 0], []⟩)
      (fun A R s => s.heap.get? l = some { cls := .type "list", dict := dd, data := .seq items n, slots := sl } ∧ s.heap.get? b = some { cls := .type "list", dict := dd2, data := .seq items2 n2, slots := sl2 } ∧
        R (.ok (.ret (.bool (ltF x y k i)))) s) := by
  induction k with
  | zero =>
    intro i hk prog w A R s h
    obtain ⟨hp, g, d, tk, os⟩ := s; obtain ⟨hl, hb, h⟩ := h
    wp_walk using wpAny_loadPart' hl, wpAny_loadPart' hb
    have hi1 : items[((i : Nat) : Int).toNat]? = none := by simp; omega
    have hi2 : items2[((i : Nat) : Int).toNat]? = none := by simp; omega
    rw [hi1, hi2]
    wp_walk using wpAny_loadPart' hl, wpAny_loadPart' hb
    show R (.ok (.ret (.bool (decide (items.size < items2.size))))) _
    rw [hsz]
    unfold ltF at h
    simpa using h
  | succ k ih =>
    intro i hk prog w A R s h
    obtain ⟨hp, g, d, tk, os⟩ := s; obtain ⟨hl, hb, h⟩ := h
    wp_walk using wpAny_loadPart' hl, wpAny_loadPart' hb
    have hlt : i < items.size := by omega
    have hlt2 : i < items2.size := by omega
    have hi1 : items[((i : Nat) : Int).toNat]? = some items[i] := by simp [hlt]
    have hi2 : items2[((i : Nat) : Int).toNat]? = some items2[i] := by simp [hlt2]
    have hc : ((i : Int) + 1) = ((i + 1 : Nat) : Int) := by push_cast; rfl
    obtain ⟨t, ht⟩ := hx i hlt
    obtain ⟨u, hu⟩ := hy i hlt2
    rw [hi1, hi2]
    rw [ht, hu]
    refine wpAny_bind ((EqAt.int_int (x i) t (y i) u) prog w _ _ ?_)
    unfold ltF at h
    by_cases hb' : x i = y i
    · rw [if_pos hb'] at h
      have hbt : (x i == y i) = true := by simpa using hb'
      rw [hbt]
      wp_walk
      rw [hc]
      exact ⟨plainId_quiet plain_eq_loop _, codeAny_builtin entry_eq_loop (by
        rw [Around.under_plainId plain_eq_loop _]
        exact ih (i + 1) (by omega) prog w A R _ ⟨hl, hb, h⟩)⟩
    · rw [if_neg hb'] at h
      have hbf : (x i == y i) = false := by simpa using hb'
      rw [hbf]
      wp_walk using wpAny_loadPart' hl, wpAny_loadPart' hb
      rw [hi1, hi2]
      rw [ht, hu]
      dsimp only
      refine wpAny_bind (wpAny_richCompare_same (typeIs_int _ _ _) (typeIs_int _ _ _) slot_int_lt (call_int_lt ⟨by simp, ?_⟩))
      wp_walk
      exact h
theorem list_ltAt (l b : Addr) (items items2 : Array Value) (n n2 : Nat) (dd dd2 : Option Addr) (sl sl2 : Array (Option Value)) (hsz : items.size = items2.size) (x y : Nat → Int)
    (hx : ∀ j (h : j < items.size), ∃ t, items[j] = .int (x j) t) (hy : ∀ j (h : j < items2.size), ∃ t, items2[j] = .int (y j) t) :
    Meets (Builtin.«list.__lt__» ⟨[.ref l, .ref b], []⟩)
      (fun A R s => s.heap.get? l = some { cls := .type "list", dict := dd, data := .seq items n, slots := sl } ∧ s.heap.get? b = some { cls := .type "list", dict := dd2, data := .seq items2 n2, slots := sl2 } ∧
        R (.ok (.ret (.bool (ltF x y items.size 0)))) s) := by
  intro prog w A R s h
  obtain ⟨hp, g, d, tk, os⟩ := s; obtain ⟨hl, hb, h⟩ := h
  have f3 := AutoSeq1.sub_list_list
  wp_walk using wpAny_loadPart' hl, wpAny_loadPart' hb
  exact ⟨plainId_quiet plain_eq_loop _, codeAny_builtin entry_eq_loop (by
    rw [Around.under_plainId plain_eq_loop _]
    exact lt_loopAt l b items items2 n n2 dd dd2 sl sl2 hsz x y hx hy items.size 0 (by omega) prog w A R _ ⟨hl, hb, h⟩)⟩
/-- a list of ints stands at the address -/
def IntsAt (h : Heap) (a : Addr) (n : Nat) (x : Nat → Int) : Prop := ∃ o vs e, h.get? a = some o ∧ o.cls = .type "list" ∧ o.data = .seq vs e ∧ vs.size = n ∧ ∀ j (h : j < vs.size), ∃ t, vs[j] = .int (x j) t
theorem keyLt_rows {prog : Program} {w : World} {A : Around} {E : Value → Shared → Prop} {s : Shared} {l b : Addr} {n : Nat} {x y : Nat → Int} {Q : Bool → Shared → Prop} (hu : A.units < cLine) (hl : IntsAt s.heap l n x) (hb : IntsAt s.heap b n y) (h : Q (ltF x y n 0) s) :
    wpAny (model prog w) A (keyLt' oneType' (.ref l) (.ref b)) Q E s := by
  obtain ⟨⟨c1, d1, t1, s1⟩, vs, e1, ho1, hc1, hd1, hs1, hx⟩ := hl
  obtain ⟨⟨c2, d2, t2, s2⟩, ws, e2, ho2, hc2, hd2, hs2, hy⟩ := hb
  simp only at hc1 hd1 hc2 hd2
  subst hc1 hd1 hc2 hd2
  rw [keyLt'_oneType, oneLt'_eq]
  simp only [if_true]
  refine wpAny_bind (wpAny_cRoomFor hu ?_)
  refine wpAny_bind (wpAny_callSpecialIfBound?_slot (T := "list") (id := "list.__lt__") ⟨_, ho1, rfl⟩ PySem.F.slot_list_lt (call_meets PySem.F.slot_list_lt ⟨_, ho1, rfl⟩ PySem.F.entry_list_lt (PySem.F.args_list_lt_2 _ _) (list_ltAt l b vs ws e1 e2 d1 d2 s1 s2 (hs1.trans hs2.symm) x y hx hy) ⟨ho1, ho2, ?_⟩))
  rw [hs1]
  exact wpAny_truthy_bool h

/-- the sort's questions answered by a plain order -/
def KEv (c : Nat → Nat → Bool) {α : Type} : KasT α → α
  | .ret a => a
  | .ask i j k => KEv c (k (c i j))
def KOk (c : Nat → Nat → Bool) (n : Nat) {α : Type} : KasT α → Bool
  | .ret _ => true
  | .ask i j k => decide (i < n) && decide (j < n) && KOk c n (k (c i j))
theorem kas_plain {α : Type} {cmp : Nat → Nat → (Bool → Shared → Prop) → Shared → Prop} {c : Nat → Nat → Bool} {n : Nat} {s : Shared} {Q : α → Shared → Prop} (hc : ∀ i j, i < n → j < n → ∀ C : Bool → Shared → Prop, C (c i j) s → cmp i j C s) :
    ∀ t : KasT α, KOk c n t = true → Q (KEv c t) s → t.kasWp cmp Q s
  | .ret a, _, h => h
  | .ask i j k, ok, h => by
    unfold KOk at ok
    simp only [Bool.and_eq_true, decide_eq_true_eq] at ok
    exact hc i j ok.1.1 ok.1.2 _ (kas_plain hc (k (c i j)) ok.2 h)
theorem rows_list_sort {prog : Program} {w : World} {A : Around} {E : Value → Shared → Prop} {s : Shared} {a : Addr} {vs : List Value} {n : Nat} {P : PySem.Fin → Shared → Prop} {c : Nat → Nat → Bool} (ho : s.heap.get? a = some (seqObj "list" vs.toArray n)) (h2 : 2 ≤ vs.length) (h64 : vs.length < 64)
    (hT : ∀ v ∈ vs, ∃ b o, v = .ref b ∧ b ≠ a ∧ s.heap.get? b = some o ∧ o.cls = .type "list")
    (hc : ∀ h', (∀ b o, b ≠ a → s.heap.get? b = some o → h'.get? b = some o) → ∀ i j, i < vs.length → j < vs.length → ∀ C : Bool → Shared → Prop, C (c i j) { s with heap := h' } → kas_ask prog w A oneType' vs i j C { s with heap := h' })
    (hok : KOk c vs.length (kas_sort vs.length) = true)
    (h : ∀ h' e, (∀ b o, b ≠ a → s.heap.get? b = some o → h'.get? b = some o) → h'.get? a = some (seqObj "list" ((KEv c (kas_sort vs.length)).toList.map fun i => vs.getD i Value.none).toArray e) → P (.done (.ret .none)) { s with heap := h' }) :
    wpAny (model prog w) A (Builtin.«list.sort» ⟨[.ref a], []⟩) P E s := by
  have hlt : ∀ b o, s.heap.get? b = some o → b < s.heap.objs.size := fun b o e => Heap.lt_size e
  have u1 := Heap.SameBut.update s.heap a (Obj.mapSeq fun _ => (#[] : Array Value))
  obtain ⟨e1, ho1⟩ : ∃ e1, (s.heap.update a (Obj.mapSeq fun _ => (#[] : Array Value))).get? a = some (seqObj "list" #[] e1) := ⟨_, get?_update_seq ho fun _ => #[]⟩
  rw [list_sort_plain]
  refine wpAny_bind (listItems_at ho rfl ?_)
  refine wpAny_bind (listUpdate_at ho rfl ?_ (by rw [List.size_toArray, sizeLine_eq]; omega) (Nat.zero_le _))
  refine wpAny_bind (seqEpoch_at ho1 rfl ?_)
  refine wpAny_bind (wpAny_newTuple ?_ (by show vs.length ≤ _; rw [sizeLine_eq]; omega))
  refine wpAny_bind (wpAny_newList ?_ (Nat.zero_le _))
  refine wpAny_holding ?_
  show wpAny (model prog w) A _ P E { s with heap := ((s.heap.update a (Obj.mapSeq fun _ => (#[] : Array Value))).push (seqObj "tuple" vs.toArray 0)).push (seqObj "list" #[] 0) }
  generalize hH : ((s.heap.update a (Obj.mapSeq fun _ => (#[] : Array Value))).push (seqObj "tuple" vs.toArray 0)).push (seqObj "list" #[] 0) = H
  have keep : ∀ b o, b ≠ a → s.heap.get? b = some o → H.get? b = some o := fun b o hb e => by
    rw [← hH]; exact Heap.get?_push_of_some _ (Heap.get?_push_of_some _ ((u1.2 b hb).trans e))
  have hoa : H.get? a = some (seqObj "list" #[] e1) := by rw [← hH]; exact Heap.get?_push_of_some _ (Heap.get?_push_of_some _ ho1)
  dsimp only
  have hn2 : ¬ vs.toArray.size < 2 := by rw [List.size_toArray]; omega
  rw [if_neg hn2, if_neg hn2]
  refine wpAny_bind (kas_kind (T := .type "list") h2 (fun v hv => ?_) (by decide) (by decide) ?_)
  · obtain ⟨b, o, rfl, hb, hob, hcl⟩ := hT v hv
    exact fun A Q E s' k q => wpAny_typeOf ⟨o, k _ _ (keep b o hb hob), hcl⟩ q
  have est : SortSt.mk' oneType' (vs.toArray.zip vs.toArray) #[] 7 none = kas_st oneType' (pairsOf vs) (List.toArray (List.range vs.length)) := by
    have e := kas_range (pairsOf vs)
    rw [pairsOf_size] at e
    show SortSt.mk' oneType' (pairsOf vs) #[] 7 none = SortSt.mk' oneType' ((List.toArray (List.range vs.length)).map (kas_item (pairsOf vs))) #[] 7 none
    rw [e]
  have ask : (kas_sort vs.length).kasWp (kas_ask prog w A oneType' vs) (fun p s' => p = KEv c (kas_sort vs.length) ∧ s' = { s with heap := H }) { s with heap := H } := kas_plain (hc H keep) _ hok ⟨rfl, rfl⟩
  rw [kas_ask_eq] at ask
  have run := kas_runs (E := E) (Q := fun _ st' s' => arrOf st' = (KEv c (kas_sort vs.length)).map (kas_item (pairsOf vs)) ∧ failedOf st' = none ∧ (KEv c (kas_sort vs.length)).size = vs.length ∧ s' = { s with heap := H })
    h2 h64 (fun p' st' s' a1 a2 a3 a4 => by obtain ⟨rfl, rfl⟩ := a4; exact ⟨a2, a3, a1, rfl⟩) ask
  rw [← est] at run
  refine wpAny_bind (wpAny_mono run ?_ fun _ _ e => e)
  rintro ⟨⟨⟩, st'⟩ s' ⟨har, hf, hp, rfl⟩
  dsimp only
  have hout : (arrOf st').map (·.2) = List.toArray ((KEv c (kas_sort vs.length)).toList.map fun i => vs.getD i Value.none) := by
    apply Array.toList_inj.mp
    rw [har, Array.map_map, Array.toList_map]
    exact List.map_congr_left fun i _ => by show (kas_item (pairsOf vs) i).2 = _; rw [kas_item_eq]
  rw [hout]
  generalize houts : List.toArray ((KEv c (kas_sort vs.length)).toList.map fun i => vs.getD i Value.none) = out at *
  have hsz : out.size = vs.length := by rw [← houts, List.size_toArray, List.length_map, Array.length_toList, hp]
  have s2 := Heap.SameBut.update H a (Obj.mapSeq fun _ => out)
  obtain ⟨c2, hc2⟩ : ∃ c2, (H.update a (Obj.mapSeq fun _ => out)).get? a = some (seqObj "list" out c2) := ⟨_, get?_update_seq hoa fun _ => out⟩
  refine wpAny_bind (seqEpoch_at hoa rfl ?_)
  refine wpAny_bind (listUpdate_at hoa rfl ?_ (Nat.zero_le _) (Nat.le_trans (Nat.le_of_eq hsz) (by rw [sizeLine_eq]; omega)))
  rw [hf]
  simp only [bne_self_eq_false, Bool.false_eq_true, if_false]
  refine wpAny_pure (h _ c2 (fun b o hb e => (s2.2 b hb).trans (keep b o hb e)) ?_)
  exact hc2
end Mine
end
section
open PySem PySem.W PySem.Calls PyProof.Rows
set_option linter.unusedVariables false
set_option maxRecDepth 100000
namespace Mine
def rk (r0 r1 r2 : Nat) : Nat → Nat
  | 0 => r0
  | 1 => r1
  | _ => r2
def sortedBy (f : Nat → Nat) : List Nat → Bool
  | a :: r => r.all (fun b => decide (f a ≤ f b)) && sortedBy f r
  | [] => true
theorem sortedBy_pw {f : Nat → Nat} : ∀ {l : List Nat}, sortedBy f l = true → l.Pairwise fun a b => f a ≤ f b
  | [], _ => .nil
  | a :: r, h => by
    unfold sortedBy at h
    simp only [Bool.and_eq_true, List.all_eq_true, decide_eq_true_eq] at h
    exact .cons h.1 (sortedBy_pw h.2)
theorem kev3 : ∀ r0, r0 < 3 → ∀ r1, r1 < 3 → ∀ r2, r2 < 3 → (KOk (fun i j => decide (rk r0 r1 r2 i < rk r0 r1 r2 j)) 3 (kas_sort 3) && (KEv (fun i j => decide (rk r0 r1 r2 i < rk r0 r1 r2 j)) (kas_sort 3)).toList.isPerm [0, 1, 2] && sortedBy (rk r0 r1 r2) (KEv (fun i j => decide (rk r0 r1 r2 i < rk r0 r1 r2 j)) (kas_sort 3)).toList) = true := by
  decide +kernel
theorem kev2 : ∀ r0, r0 < 3 → ∀ r1, r1 < 3 → ∀ r2, r2 < 3 → (KOk (fun i j => decide (rk r0 r1 r2 i < rk r0 r1 r2 j)) 2 (kas_sort 2) && (KEv (fun i j => decide (rk r0 r1 r2 i < rk r0 r1 r2 j)) (kas_sort 2)).toList.isPerm [0, 1] && sortedBy (rk r0 r1 r2) (KEv (fun i j => decide (rk r0 r1 r2 i < rk r0 r1 r2 j)) (kas_sort 2)).toList) = true := by
  decide +kernel
def consB (b01 b10 b02 b20 b12 b21 : Bool) : Bool := !(b01 && b10) && !(b02 && b20) && !(b12 && b21) && (!b01 || b02 || b21) && (!b10 || b12 || b20) && (!b02 || b01 || b12) && (!b20 || b21 || b10) && (!b12 || b10 || b02) && (!b21 || b20 || b01)
theorem ranksB : ∀ b01 b10 b02 b20 b12 b21 : Bool, consB b01 b10 b02 b20 b12 b21 = true →
    (b10.toNat + b20.toNat < 3 ∧ b01.toNat + b21.toNat < 3 ∧ b02.toNat + b12.toNat < 3) ∧
    (b10.toNat + b20.toNat < b01.toNat + b21.toNat ↔ b01 = true) ∧ (b01.toNat + b21.toNat < b10.toNat + b20.toNat ↔ b10 = true) ∧ (b10.toNat + b20.toNat < b02.toNat + b12.toNat ↔ b02 = true) ∧ (b02.toNat + b12.toNat < b10.toNat + b20.toNat ↔ b20 = true) ∧ (b01.toNat + b21.toNat < b02.toNat + b12.toNat ↔ b12 = true) ∧ (b02.toNat + b12.toNat < b01.toNat + b21.toNat ↔ b21 = true) := by
  decide +kernel
theorem ltB1 (a b : Int) : (!(decide (a < b) && decide (b < a))) = true := by
  by_cases h : a < b
  · rw [decide_eq_false (show ¬ b < a by omega), Bool.and_false]; rfl
  · rw [decide_eq_false h]; rfl
theorem ltB2 (a b c : Int) : (!decide (a < b) || decide (a < c) || decide (c < b)) = true := by
  by_cases h : a < b
  · by_cases k : a < c
    · rw [decide_eq_true k, Bool.or_true]; rfl
    · rw [decide_eq_true (show c < b by omega), Bool.or_true]
  · rw [decide_eq_false h]; rfl
theorem ranks (k0 k1 k2 : Int) : ∃ r0 r1 r2 : Nat, r0 < 3 ∧ r1 < 3 ∧ r2 < 3 ∧ (r0 < r1 ↔ k0 < k1) ∧ (r1 < r0 ↔ k1 < k0) ∧ (r0 < r2 ↔ k0 < k2) ∧ (r2 < r0 ↔ k2 < k0) ∧ (r1 < r2 ↔ k1 < k2) ∧ (r2 < r1 ↔ k2 < k1) := by
  have h := ranksB (decide (k0 < k1)) (decide (k1 < k0)) (decide (k0 < k2)) (decide (k2 < k0)) (decide (k1 < k2)) (decide (k2 < k1)) (by
    unfold consB
    rw [ltB1 k0 k1, ltB1 k0 k2, ltB1 k1 k2, ltB2 k0 k1 k2, ltB2 k1 k0 k2, ltB2 k0 k2 k1, ltB2 k2 k0 k1, ltB2 k1 k2 k0, ltB2 k2 k1 k0]; rfl)
  simp only [decide_eq_true_eq] at h
  obtain ⟨⟨a, b, c⟩, d⟩ := h
  exact ⟨_, _, _, a, b, c, d⟩
theorem call_sorted {prog : Program} {w : World} {A : Around} {E : Value → Shared → Prop} {s : Shared} {l : Addr} {vs : List Value} {Q : Value → Shared → Prop} {c : Nat → Nat → Bool} (hl : s.heap.IsList l vs.toArray) (h2 : 2 ≤ vs.length) (h64 : vs.length < 64)
    (hT : ∀ v ∈ vs, ∃ b o, v = .ref b ∧ s.heap.get? b = some o ∧ o.cls = .type "list")
    (hc : ∀ h', (∀ b o, s.heap.get? b = some o → h'.get? b = some o) → ∀ i j, i < vs.length → j < vs.length → ∀ C : Bool → Shared → Prop, C (c i j) { s with heap := h' } → kas_ask prog w A.in1.in1 oneType' vs i j C { s with heap := h' })
    (hok : KOk c vs.length (kas_sort vs.length) = true)
    (h : ∀ D h', s.heap.objs.size ≤ D → (∀ b o, s.heap.get? b = some o → h'.get? b = some o) → h'.IsList D ((KEv c (kas_sort vs.length)).toList.map fun i => vs.getD i Value.none).toArray → Q (.ref D) { s with heap := h' }) :
    wpAny (model prog w) A (call (.builtin "sorted") [.ref l]) Q E s := by
  refine Calls.call_function_entry kind_sorted plain_sorted entry_sorted (args_sorted1 _) ?_
  unfold Builtin.«sorted»
  refine wpAny_bind (m := checkCount "sorted" 1 1 _) (wpAny_pure ?_)
  refine wpAny_bind (collect_list hl ?_ (by rw [sizeLine_eq]; omega))
  refine wpAny_bind (wpAny_newList ?_ (by rw [sizeLine_eq]; omega))
  have hsz : ((s.heap.push (seqObj "list" #[] 0)).update s.heap.objs.size (Obj.mapSeq (· ++ vs.toArray))).objs.size = s.heap.objs.size + 1 := by
    rw [Heap.size_update, size_push']
  have hoL : (((s.heap.push (seqObj "list" #[] 0)).update s.heap.objs.size (Obj.mapSeq (· ++ vs.toArray))).push (seqObj "list" vs.toArray 0)).get? (s.heap.objs.size + 1) = some (seqObj "list" vs.toArray 0) := by
    rw [← hsz]; exact Heap.get?_push_size _ rfl
  have keep : ∀ b o, s.heap.get? b = some o → (((s.heap.push (seqObj "list" #[] 0)).update s.heap.objs.size (Obj.mapSeq (· ++ vs.toArray))).push (seqObj "list" vs.toArray 0)).get? b = some o := fun b o q => by
    have hlt : b < s.heap.objs.size := Heap.lt_size q
    rw [Heap.get?_push_ne _ _ _ (by rw [hsz]; exact Nat.ne_of_lt (Nat.lt_succ_of_lt hlt)), Heap.get?_update_ne _ _ _ _ (Nat.ne_of_lt hlt), Heap.get?_push_ne _ _ _ (Nat.ne_of_lt hlt)]
    exact q
  show wpAny _ _ _ _ _ { s with heap := ((s.heap.push (seqObj "list" #[] 0)).update s.heap.objs.size (Obj.mapSeq (· ++ vs.toArray))).push (seqObj "list" vs.toArray 0) }
  rw [hsz]
  generalize ((s.heap.push (seqObj "list" #[] 0)).update s.heap.objs.size (Obj.mapSeq (· ++ vs.toArray))).push (seqObj "list" vs.toArray 0) = H at hoL keep ⊢
  have ne : ∀ b o, s.heap.get? b = some o → b ≠ s.heap.objs.size + 1 := fun b o e => Nat.ne_of_lt (Nat.lt_succ_of_lt (Heap.lt_size e))
  refine wpAny_bind (wpAny_holding (wpAny_call_entry slot_list_sort ⟨_, hoL, rfl⟩ entry_list_sort (rows_list_sort (c := c) (s := { s with heap := H }) hoL h2 h64 ?_ ?_ hok fun h' e k1 k2 => ⟨_, rfl, ?_⟩) (args_list_sort _)))
  · intro v hv
    obtain ⟨b, o, rfl, hb, hcl⟩ := hT v hv
    exact ⟨b, o, rfl, ne b o hb, keep b o hb, hcl⟩
  · intro h' k i j hi hj C hC
    exact hc h' (fun b o e => k b o (ne b o e) (keep b o e)) i j hi hj C hC
  · exact wpAny_pure ⟨_, rfl, h _ h' (Nat.le_succ _) (fun b o e => k1 b o (ne b o e) (keep b o e)) ⟨_, k2, rfl, _, rfl⟩⟩
def Code (m : Nat) (r : List Int) : Int := codeF (fun j => r.getD j 0) m 0
structure RowOk (m : Nat) (r : List Int) : Prop where
  len : r.length = m
  bd : ∀ j, 0 ≤ r.getD j 0 ∧ r.getD j 0 ≤ 2
theorem Code_inj {m : Nat} {a b : List Int} (ha : RowOk m a) (hb : RowOk m b) (h : Code m a = Code m b) : a = b := by
  refine List.ext_getElem (ha.len.trans hb.len.symm) fun i h1 h2 => ?_
  have := codeF_inj ha.bd hb.bd m 0 h i (Nat.zero_le _) (by rw [Nat.zero_add, ← ha.len]; exact h1)
  simpa [h1, h2] using this
theorem rep_row {X : List Addr} {h : Heap} {r : List Int} {v : Value} (q : Rep X h (.list (nums r)) v) : ∃ b, v = .ref b ∧ (∃ o, h.get? b = some o ∧ o.cls = .type "list") ∧ ∀ h' : Heap, (∀ b o, h.get? b = some o → h'.get? b = some o) → IntsAt h' b r.length fun j => r.getD j 0 := by
  simp only [Rep] at q
  obtain ⟨b, vs, rfl, _, ⟨o, ho, hc, e, hd⟩, ra⟩ := q
  refine ⟨b, rfl, ⟨o, ho, hc⟩, fun h' k => ⟨o, vs.toArray, e, k b o ho, hc, hd, ?_, fun j hj => ?_⟩⟩
  · rw [List.size_toArray, ra.length]; unfold nums; rw [List.length_map]
  · have hj' : j < r.length := by rw [List.size_toArray, ra.length] at hj; unfold nums at hj; rw [List.length_map] at hj; exact hj
    have : (nums r)[j]? = some (.int r[j]) := by unfold nums; rw [List.getElem?_map, List.getElem?_eq_getElem hj']; rfl
    obtain ⟨v, hv, rv⟩ := ra.get this
    simp only [Rep] at rv
    obtain ⟨t, rfl⟩ := rv
    refine ⟨t, ?_⟩
    have hj2 : j < vs.length := by simpa using hj
    rw [List.getElem?_eq_getElem hj2] at hv
    have := Option.some.inj hv
    simp [hj', this]
theorem repAll_pick {X : List Addr} {h : Heap} {ds : List D} {vs : List Value} (ra : RepAll X h ds vs) : ∀ (idx : List Nat), (∀ i ∈ idx, i < ds.length) → RepAll X h (idx.map fun i => ds.getD i .none) (idx.map fun i => vs.getD i Value.none)
  | [], _ => RepAll.nil
  | i :: r, hi => by
    have h1 := hi i List.mem_cons_self
    obtain ⟨v, hv, rv⟩ := ra.get (List.getElem?_eq_getElem h1)
    have e1 : ds.getD i .none = ds[i] := by simp [h1]
    have e2 : vs.getD i Value.none = v := by simp [List.getD, hv]
    simp only [List.map_cons]
    rw [e1, e2]
    exact RepAll.cons rv (repAll_pick ra r fun j hj => hi j (List.mem_cons_of_mem _ hj))
theorem rows_get {l : List (List Int)} {i : Nat} (h : i < l.length) : (rows l)[i]? = some (.list (nums (l.getD i []))) := by
  unfold rows
  rw [List.getElem?_map, List.getElem?_eq_getElem h]
  simp [h]
theorem sorted_core {C : PC} {l : List (List Int)} {m : Nat} (hr : ∀ r ∈ l, RowOk m r) {r0 r1 r2 : Nat} (h2 : 2 ≤ l.length) (h3 : l.length ≤ 3)
    (hk : ∀ i j, i < l.length → j < l.length → (rk r0 r1 r2 i < rk r0 r1 r2 j ↔ Code m (l.getD i []) < Code m (l.getD j [])))
    (hok : KOk (fun i j => decide (rk r0 r1 r2 i < rk r0 r1 r2 j)) l.length (kas_sort l.length) = true)
    (hp : (KEv (fun i j => decide (rk r0 r1 r2 i < rk r0 r1 r2 j)) (kas_sort l.length)).toList.Perm (List.range l.length))
    (hs : sortedBy (rk r0 r1 r2) (KEv (fun i j => decide (rk r0 r1 r2 i < rk r0 r1 r2 j)) (kas_sort l.length)).toList = true) :
    ∃ l' : List (List Int), l'.Perm l ∧ l'.Pairwise (fun a b => Code m a ≤ Code m b) ∧ BOk C (.builtin "sorted") [.list (rows l)] (.list (rows l')) := by
  generalize hc : (fun i j => decide (rk r0 r1 r2 i < rk r0 r1 r2 j)) = c at *
  generalize hidx : (KEv c (kas_sort l.length)).toList = idx at *
  have hlt : ∀ i ∈ idx, i < l.length := fun i hi => List.mem_range.mp (hp.mem_iff.mp hi)
  refine ⟨idx.map fun i => l.getD i [], ?_, ?_, ?_⟩
  · have e : l = (List.range l.length).map fun i => l.getD i [] := by
      refine List.ext_getElem (by simp) fun i h1 h2 => ?_
      simp [h1]
    have := hp.map fun i => l.getD i []
    rwa [← e] at this
  · rw [List.pairwise_map]
    refine List.Pairwise.imp_of_mem ?_ (sortedBy_pw hs)
    intro i j hi hj hle
    refine Int.not_lt.mp fun hh => ?_
    have := (hk j i (hlt j hj) (hlt i hi)).mpr hh
    omega
  · intro A s X vs Q g _ al ra q
    simp only [RepAll] at ra
    obtain ⟨v, w, rfl, rv, rfl⟩ := ra
    simp only [Rep] at rv
    obtain ⟨a, xs, rfl, hx, hl, ra⟩ := rv
    have hlen : xs.length = l.length := by rw [ra.length]; unfold rows; rw [List.length_map]
    have at_ : ∀ i, i < l.length → ∃ b, xs.getD i Value.none = .ref b ∧ (∃ o, s.heap.get? b = some o ∧ o.cls = .type "list") ∧ ∀ h' : Heap, (∀ b o, s.heap.get? b = some o → h'.get? b = some o) → IntsAt h' b m fun j => (l.getD i []).getD j 0 := fun i hi => by
      obtain ⟨v, hv, rv⟩ := ra.get (rows_get hi)
      obtain ⟨b, rfl, h1, h2⟩ := rep_row rv
      have hm : l.getD i [] ∈ l := by simp [hi]
      rw [(hr _ hm).len] at h2
      exact ⟨b, by simp [List.getD, hv], h1, h2⟩
    refine call_sorted (c := c) hl (by omega) (by omega) ?_ ?_ (by rw [hlen]; exact hok) ?_
    · intro v hv
      obtain ⟨i, hi, rfl⟩ := List.getElem_of_mem hv
      obtain ⟨b, hb, ⟨o, h1, h2⟩, _⟩ := at_ i (by omega)
      exact ⟨b, o, by rw [← hb]; simp [hi], h1, h2⟩
    · intro h' k i j hi hj Cc hC
      rw [hlen] at hi hj
      obtain ⟨b1, e1, _, i1⟩ := at_ i hi
      obtain ⟨b2, e2, _, i2⟩ := at_ j hj
      show wpAny _ _ (keyLt' oneType' (xs.getD i Value.none) (xs.getD j Value.none)) Cc _ _
      rw [e1, e2]
      have hm1 : l.getD i [] ∈ l := by simp [hi]
      have hm2 : l.getD j [] ∈ l := by simp [hj]
      refine keyLt_rows (n := m) ?_ (i1 h' k) (i2 h' k) ?_
      · have := g.2.2; rw [units_in1, units_in1]; omega
      · rw [ltF_code (hr _ hm1).bd (hr _ hm2).bd]
        have : c i j = decide (Code m (l.getD i []) < Code m (l.getD j [])) := by
          rw [← hc]; exact decide_eq_decide.mpr (hk i j hi hj)
        rw [this] at hC
        exact hC
    · intro D h' hD k hL
      refine q _ _ ⟨h', s.toks, rfl, k⟩ ?_
      have kk : Sub s.heap h' := k
      rw [hlen, hidx] at hL
      unfold Rep
      refine ⟨D, _, rfl, fresh_not al hD, hL, ?_⟩
      have := repAll_pick (ra.up kk) idx (by unfold rows; rw [List.length_map]; exact hlt)
      have e : rows (idx.map fun i => l.getD i []) = idx.map fun i => (rows l).getD i .none := by
        unfold rows
        rw [List.map_map]
        refine List.map_congr_left fun i hi => ?_
        have := hlt i hi
        simp [this]
      rw [e]; exact this
theorem BOk.sortedRows {C : PC} {l : List (List Int)} {m : Nat} (hr : ∀ r ∈ l, RowOk m r) (h2 : 2 ≤ l.length) (h3 : l.length ≤ 3) :
    ∃ l' : List (List Int), l'.Perm l ∧ l'.Pairwise (fun a b => Code m a ≤ Code m b) ∧ BOk C (.builtin "sorted") [.list (rows l)] (.list (rows l')) := by
  obtain ⟨r0, r1, r2, b0, b1, b2, h01, h10, h02, h20, h12, h21⟩ := ranks (Code m (l.getD 0 [])) (Code m (l.getD 1 [])) (Code m (l.getD 2 []))
  have hk : ∀ i j, i < l.length → j < l.length → (rk r0 r1 r2 i < rk r0 r1 r2 j ↔ Code m (l.getD i []) < Code m (l.getD j [])) := by
    intro i j hi hj
    have e1 : i = 0 ∨ i = 1 ∨ i = 2 := by omega
    have e2 : j = 0 ∨ j = 1 ∨ j = 2 := by omega
    rcases e1 with rfl | rfl | rfl <;> rcases e2 with rfl | rfl | rfl <;> unfold rk <;> first | assumption | omega
  have : l.length = 2 ∨ l.length = 3 := by omega
  rcases this with e | e
  · have k := kev2 r0 b0 r1 b1 r2 b2
    simp only [Bool.and_eq_true] at k
    refine sorted_core hr h2 h3 hk (by rw [e]; exact k.1.1) ?_ (by rw [e]; exact k.2)
    rw [e]; exact List.isPerm_iff.mp k.1.2
  · have k := kev3 r0 b0 r1 b1 r2 b2
    simp only [Bool.and_eq_true] at k
    refine sorted_core hr h2 h3 hk (by rw [e]; exact k.1.1) ?_ (by rw [e]; exact k.2)
    rw [e]; exact List.isPerm_iff.mp k.1.2
/-- two lists of the same rows are sorted alike -/
theorem sorted_same {m : Nat} {l k a b : List (List Int)} (hl : ∀ r ∈ l, RowOk m r) (hp : k.Perm l) (ha : a.Perm l) (hb : b.Perm k) (pa : a.Pairwise fun x y => Code m x ≤ Code m y) (pb : b.Pairwise fun x y => Code m x ≤ Code m y) : a = b := by
  have hab : a.Perm b := ha.trans (hp.symm.trans hb.symm)
  refine List.Perm.eq_of_pairwise (le := fun x y => Code m x ≤ Code m y) ?_ pa pb hab
  intro x y hx hy h1 h2
  exact Code_inj (hl x (ha.mem_iff.mp hx)) (hl y (ha.mem_iff.mp (hab.mem_iff.mpr hy))) (by omega)
end Mine
end
section
open PySem PyProof.Rows
set_option linter.unusedVariables false
namespace Mine
variable {C : PC} {k : Nat} {env : Env} {X : List Addr} {l : List (Str × D)} {v v' : Vals} {o o' : Own}
theorem filter_dec {α : Type} {em : α → D} {dec : D → α} (hd : ∀ a, dec (em a) = a) (c : α → Bool) (f : α → D) (as : List α) : ((as.map em).filter fun d => c (dec d)).map (fun d => f (dec d)) = (as.filter c).map f := by
  rw [List.filter_map, List.map_map]
  have e1 : (fun d => c (dec d)) ∘ em = c := funext fun a => by simp [hd]
  have e2 : (fun d => f (dec d)) ∘ em = f := funext fun a => by simp [hd]
  rw [e1, e2]
theorem Ev.compM {α : Type} {em : α → D} (dec : D → α) {sc scope : Scope} {elt iter : PySem.Expr} {x : Str} {px pos : Pos} {ifs : List PySem.Expr} {as : List α} {lc : List (Str × D)} (c : α → Bool) (f : α → D) (hd : ∀ a, dec (em a) = a)
    (fe : FEnv env sc) (hit : It C k env X l iter (as.map em)) (hcell : ∀ y ∈ scope.names, y.2 ≠ .cell) (hkind : scope.kind = .function) (hx : scope.names.lookup x = some .local)
    (hnames : ∀ y ∈ scope.names, y.2 = .local → scope.names.lookup y.1 = some .local)
    (hcl : ∀ y ∈ scope.names, y.2 = .free → sc.names.lookup y.1 = some .cell) (hcap : Caps l scope sc lc) (hz : as.length ≤ 1000)
    (hsc : ∀ a, Sc (f a) = true)
    (body : ∀ env' a, a ∈ as → CEnv env' scope env → Tests C k env' X ((x, em a) :: lc) ifs (c a) ∧ (c a = true → Ev C k env' X ((x, em a) :: lc) elt (f a)))
    (hs : ∀ x, foldedSetIterable iter env x = pure x) :
    Ev C k env X l (.ListComp elt [⟨.Name x px, iter, ifs, 0⟩] scope pos) (.list ((as.filter c).map f)) := by
  rw [← filter_dec hd c f as]
  refine Ev.comp (fun d => c (dec d)) (fun d => f (dec d)) fe hit hcell hkind hx hnames hcl hcap (by rw [List.length_map]; exact hz) (fun d _ _ => hsc _) ?_ hs
  intro env' d hdm ce
  obtain ⟨a, ha, rfl⟩ := List.mem_map.mp hdm
  simp only [hd]
  exact body env' a ha ce
theorem Ex.compM {α : Type} {em : α → D} (dec : D → α) {sc scope : Scope} {elt iter : PySem.Expr} {y x : Str} {py px pos spos : Pos} {ifs : List PySem.Expr} {as : List α} {lc : Vals} (c : α → Bool) (f : α → D) (hd : ∀ a, dec (em a) = a)
    (fe : FEnv env sc) (hit : ∀ X, It C k env X v iter (as.map em)) (hcell : ∀ y ∈ scope.names, y.2 ≠ .cell) (hkind : scope.kind = .function) (hx : scope.names.lookup x = some .local)
    (hnames : ∀ y ∈ scope.names, y.2 = .local → scope.names.lookup y.1 = some .local)
    (hcl : ∀ y ∈ scope.names, y.2 = .free → sc.names.lookup y.1 = some .cell) (hcap : Caps v scope sc lc) (hz : as.length ≤ 1000)
    (hsc : ∀ a, Sc (f a) = true)
    (body : ∀ X env' a, a ∈ as → CEnv env' scope env → Tests C k env' X ((x, em a) :: lc) ifs (c a) ∧ (c a = true → Ev C k env' X ((x, em a) :: lc) elt (f a)))
    (hs : ∀ x, foldedSetIterable iter env x = pure x) (hy : Sto env y) (ho : ∀ p ∈ o, p.1 ≠ y) :
    Ex C k env v o (.Assign [.Name y py] (.ListComp elt [⟨.Name x px, iter, ifs, 0⟩] scope pos) spos) ((y, .list ((as.filter c).map f)) :: v) o := by
  have hex : ∃ b : Bool, swapsWith (.ListComp elt [⟨.Name x px, iter, ifs, 0⟩] scope pos) (some (.Name y py)) spos.line env = pure b := ⟨_, rfl⟩
  obtain ⟨b, hsw⟩ := hex
  cases b with
  | false => exact Ex.assign (fun X => Ev.compM dec c f hd fe (hit X) hcell hkind hx hnames hcl hcap hz hsc (body X) hs) hy ho hsw
  | true =>
    rw [← filter_dec hd c f as]
    refine Ex.assignComp (fun d => c (dec d)) (fun d => f (dec d)) fe hit hcell hkind hx hnames hcl hcap (by rw [List.length_map]; exact hz) (fun d _ _ => hsc _) ?_ hs hy ho hsw
    intro X env' d hdm ce
    obtain ⟨a, ha, rfl⟩ := List.mem_map.mp hdm
    simp only [hd]
    exact body X env' a ha ce
def emN (i : Nat) : D := .int (i : Int)
def deN : D → Nat
  | .int i => i.toNat
  | _ => 0
theorem deN_emN (a : Nat) : deN (emN a) = a := by unfold emN deN; simp
def emI (i : Int) : D := .int i
def deI : D → Int
  | .int i => i
  | _ => 0
theorem deI_emI (a : Int) : deI (emI a) = a := rfl
def emP (q : Nat × Nat) : D := .tup [.int (q.1 : Int), .int (q.2 : Int)]
def deP : D → Nat × Nat
  | .tup [.int a, .int b] => (a.toNat, b.toNat)
  | _ => (0, 0)
theorem deP_emP (a : Nat × Nat) : deP (emP a) = a := by unfold emP deP; simp
theorem It.rangeN {e : PySem.Expr} {n : Nat} (h : ItR C k env X l e 0 1 n) : It C k env X l e ((List.range n).map emN) := by
  have e1 : (List.range n).map emN = nums (rng 0 1 n) := by
    unfold nums rng emN
    rw [List.map_map]
    refine List.map_congr_left fun i _ => ?_
    show D.int (i : Int) = .int (0 + (i : Int) * 1)
    congr 1; omega
  rw [e1]
  exact It.of_range h
end Mine
end
section
open PySem PyProof.Rows
set_option linter.unusedVariables false
namespace Mine
abbrev bx (x y : Int) : Int := Builtin.bitXor x y
def hb (n : Int) : Int := (Builtin.Int.intBits n : Int) - 1
theorem bx_halves (x y : Int) : bx x y = 2 * bx (x / 2) (y / 2) + (if x % 2 = y % 2 then 0 else 1) := by
  unfold bx
  rw [bitXor_and, bitXor_and, PySem.W.kbt_halves x y]
  generalize Builtin.bitAnd (x / 2) (y / 2) = z
  split <;> split <;> omega
theorem bx_self (x : Int) : bx x x = 0 := bitXor_self x
theorem bx_zero (x : Int) : bx x 0 = x := bitXor_zero x
theorem bx_comm (x y : Int) : bx x y = bx y x := by
  unfold bx; rw [bitXor_and, bitXor_and, bitAnd_comm]; omega
theorem bx_split (k : Nat) : ∀ (a b x y : Int), 0 ≤ x → x < 2 ^ k → 0 ≤ y → y < 2 ^ k → bx (a * 2 ^ k + x) (b * 2 ^ k + y) = bx a b * 2 ^ k + bx x y := by
  induction k with
  | zero =>
    intro a b x y h1 h2 h3 h4
    have e1 : x = 0 := by omega
    have e2 : y = 0 := by omega
    subst e1; subst e2
    rw [bx_self]; simp
  | succ k ih =>
    intro a b x y h1 h2 h3 h4
    rw [Int.pow_succ] at h2 h4 ⊢
    have ea : ∀ c z : Int, c * ((2 : Int) ^ k * 2) + z = 2 * (c * 2 ^ k) + z := fun c z => by rw [← Int.mul_assoc]; omega
    have ih' := ih a b (x / 2) (y / 2) (by omega) (by omega) (by omega) (by omega)
    rw [ea, ea, ea, bx_halves, bx_halves x y]
    have d1 : (2 * (a * 2 ^ k) + x) / 2 = a * 2 ^ k + x / 2 := by omega
    have d2 : (2 * (b * 2 ^ k) + y) / 2 = b * 2 ^ k + y / 2 := by omega
    have m1 : (2 * (a * 2 ^ k) + x) % 2 = x % 2 := by omega
    have m2 : (2 * (b * 2 ^ k) + y) % 2 = y % 2 := by omega
    rw [d1, d2, m1, m2, ih']
    omega
theorem bx_bd (k : Nat) : ∀ (x y : Int), 0 ≤ x → x < 2 ^ k → 0 ≤ y → y < 2 ^ k → 0 ≤ bx x y ∧ bx x y < 2 ^ k := by
  induction k with
  | zero =>
    intro x y h1 h2 h3 h4
    have e1 : x = 0 := by omega
    have e2 : y = 0 := by omega
    subst e1; subst e2
    rw [bx_self]; omega
  | succ k ih =>
    intro x y h1 h2 h3 h4
    rw [Int.pow_succ] at h2 h4 ⊢
    have ih' := ih (x / 2) (y / 2) (by omega) (by omega) (by omega) (by omega)
    rw [bx_halves]
    split <;> omega
theorem natAbs_pow2 (k : Nat) : ((2 : Int) ^ k).natAbs = 2 ^ k := by rw [Int.natAbs_pow]; rfl
theorem hb_eq {n : Int} {k : Nat} (h1 : 2 ^ k ≤ n) (h2 : n < 2 ^ (k + 1)) : hb n = k := by
  have hp : (0 : Int) < 2 ^ k := Int.pow_pos (by decide)
  have e1 : ((2 ^ k : Nat) : Int) = 2 ^ k := by push_cast; rfl
  have e2 : ((2 ^ (k + 1) : Nat) : Int) = 2 ^ (k + 1) := by push_cast; rfl
  unfold hb Builtin.Int.intBits
  have hne : (n == 0) = false := by simp; omega
  rw [hne]
  simp only [Bool.false_eq_true, if_false]
  have hn : n.natAbs ≠ 0 := by omega
  have := (Nat.log2_eq_iff hn (k := k)).mpr ⟨by omega, by omega⟩
  rw [this]; omega
theorem hb_zero : hb 0 = -1 := by decide +kernel
theorem hb_le {n : Int} {k : Nat} (h0 : 0 ≤ n) (h2 : n < 2 ^ k) : hb n ≤ (k : Int) - 1 := by
  have e1 : ((2 ^ k : Nat) : Int) = 2 ^ k := by push_cast; rfl
  unfold hb Builtin.Int.intBits
  by_cases hz : n = 0
  · subst hz; simp; omega
  · have hne : (n == 0) = false := by simpa using hz
    rw [hne]
    simp only [Bool.false_eq_true, if_false]
    have hn : n.natAbs ≠ 0 := by omega
    have := (Nat.log2_lt hn (k := k)).mpr (by omega)
    omega
theorem hb_ge (n : Int) : -1 ≤ hb n := by unfold hb; omega
theorem hb_pred (k : Nat) : hb (2 ^ (k + 1) - 1) = k := by
  have hp : (0 : Int) < 2 ^ k := Int.pow_pos (by decide)
  refine hb_eq ?_ ?_
  · rw [Int.pow_succ]; omega
  · omega
end Mine
end
section
open PySem PyProof.Rows
set_option linter.unusedVariables false
set_option linter.unusedSimpArgs false
set_option maxRecDepth 100000
namespace Mine
local macro_rules | `(tactic| fail "has") => `(tactic| first | with_reducible refine Has.head | (with_reducible apply Has.head) | (with_reducible apply Has.tail; ((with_reducible show _ ≠ _); decide +kernel); fail "has"))
local macro_rules | `(tactic| fail "gk") => `(tactic| first | exact gk_fun (by assumption) (by decide +kernel) | exact gk_comp (by assumption) (by decide +kernel) (by decide))
local macro_rules | `(tactic| fail "op") => `(tactic| first
  | ((with_reducible show OpOk _ Operator.Add (D.int _) (D.int _) _); with_reducible apply OpOk.addII)
  | ((with_reducible show OpOk _ Operator.Add (D.flt _) (D.flt _) _); with_reducible apply OpOk.addFF)
  | ((with_reducible show OpOk _ Operator.Add (D.list _) (D.list _) _); with_reducible apply OpOk.addLL)
  | ((with_reducible show OpOk _ Operator.Sub (D.int _) (D.int _) _); with_reducible apply OpOk.subII)
  | ((with_reducible show OpOk _ Operator.Sub (D.flt _) (D.flt _) _); with_reducible apply OpOk.subFF)
  | ((with_reducible show OpOk _ Operator.Sub (D.flt _) (D.int _) _); with_reducible apply OpOk.subFI)
  | ((with_reducible show OpOk _ Operator.Mult (D.int _) (D.int _) _); with_reducible apply OpOk.mulII)
  | ((with_reducible show OpOk _ Operator.Mult (D.flt _) (D.flt _) _); with_reducible apply OpOk.mulFF)
  | ((with_reducible show OpOk _ Operator.Mult (D.flt _) (D.int _) _); with_reducible apply OpOk.mulFI)
  | ((with_reducible show OpOk _ Operator.Div (D.int _) (D.int _) _); with_reducible apply OpOk.divII)
  | ((with_reducible show OpOk _ Operator.Div (D.flt _) (D.flt _) _); with_reducible apply OpOk.divFF)
  | ((with_reducible show OpOk _ Operator.Mod (D.int _) (D.int _) _); with_reducible apply OpOk.modII)
  | ((with_reducible show OpOk _ Operator.Mod (D.flt _) (D.flt _) _); with_reducible apply OpOk.modFF)
  | ((with_reducible show OpOk _ Operator.FloorDiv (D.int _) (D.int _) _); with_reducible apply OpOk.fdivII)
  | ((with_reducible show OpOk _ Operator.Pow (D.int _) (D.int _) _); with_reducible apply OpOk.powII)
  | ((with_reducible show OpOk _ Operator.BitXor (D.int _) (D.int _) _); with_reducible apply OpOk.xorII)
  | ((with_reducible show OpOk _ Operator.BitAnd (D.int _) (D.int _) _); with_reducible apply OpOk.andII)
  | ((with_reducible show OpOk _ Operator.RShift (D.int _) (D.int _) _); with_reducible apply OpOk.shrII))
local macro_rules | `(tactic| fail "cmp") => `(tactic| first
  | ((with_reducible show CmpOk _ CmpOp.Eq (D.int _) (D.int _) _); with_reducible apply CmpOk.eqII)
  | ((with_reducible show CmpOk _ CmpOp.NotEq (D.int _) (D.int _) _); with_reducible apply CmpOk.neII)
  | ((with_reducible show CmpOk _ CmpOp.Lt (D.int _) (D.int _) _); with_reducible apply CmpOk.ltII)
  | ((with_reducible show CmpOk _ CmpOp.Gt (D.int _) (D.int _) _); with_reducible apply CmpOk.gtII)
  | ((with_reducible show CmpOk _ CmpOp.Eq (D.flt _) (D.flt _) _); with_reducible apply CmpOk.eqFF)
  | ((with_reducible show CmpOk _ CmpOp.Lt (D.flt _) (D.flt _) _); with_reducible apply CmpOk.ltFF)
  | ((with_reducible show CmpOk _ CmpOp.LtE (D.flt _) (D.flt _) _); with_reducible apply CmpOk.leFF)
  | ((with_reducible show CmpOk _ CmpOp.Is (D.bool _) (D.bool _) _); with_reducible apply CmpOk.isBB)
  | ((with_reducible show CmpOk _ CmpOp.IsNot (D.bool _) (D.bool _) _); with_reducible apply CmpOk.isNotBB)
  | ((with_reducible show CmpOk _ CmpOp.NotIn (D.int _) (D.list _) _); with_reducible apply CmpOk.notInI))
local macro_rules | `(tactic| fail "ctr") => `(tactic| with_reducible assumption)
local macro_rules | `(tactic| fail "blt") => `(tactic| with_reducible first | exact Ctx.len (by assumption) | exact Ctx.max (by assumption) | exact Ctx.min (by assumption) | exact Ctx.sum (by assumption) | exact Ctx.sorted (by assumption) | exact Ctx.int (by assumption) | exact Ctx.range (by assumption))
local macro_rules | `(tactic| fail "bok") => `(tactic| with_reducible first | exact BOk.max3 | exact BOk.min3 | exact BOk.sum | apply BOk.len | apply BOk.toI)
local macro_rules | `(tactic| fail "sub") => `(tactic| fail)
local macro_rules | `(tactic| fail "ev") => `(tactic| first
  | ((with_reducible show Ev _ _ _ _ _ (PySem.Expr.Name (Str.ofString "ONE_THIRD") _) _); exact Ev.gflt' (Ctx.third (by assumption)) (by fail "gk") (by decide +kernel))
  | ((with_reducible show Ev _ _ _ _ _ (PySem.Expr.Name (Str.ofString "ONE_SIXTH") _) _); exact Ev.gflt' (Ctx.sixth (by assumption)) (by fail "gk") (by decide +kernel))
  | ((with_reducible show Ev _ _ _ _ _ (PySem.Expr.Name (Str.ofString "TWO_THIRD") _) _); exact Ev.gflt' (Ctx.two3 (by assumption)) (by fail "gk") (by decide +kernel))
  | ((with_reducible show Ev _ _ _ _ _ (PySem.Expr.Name _ _) _); with_reducible apply Ev.name)
  | ((with_reducible show Has _ _ _); fail "has")
  | ((with_reducible show Ev _ _ _ _ _ (PySem.Expr.BinOp _ _ _ _) _); with_reducible apply Ev.binop)
  | ((with_reducible show OpOk _ _ _ _ _); fail "op")
  | ((with_reducible show (_ == _) = false); decide +kernel)
  | with_reducible refine Ev.int | with_reducible refine Ev.flt | with_reducible refine Ev.boolc
  | ((with_reducible show Ev _ _ _ _ _ (PySem.Expr.Constant (PySem.Const.int _) _ _) _); with_reducible apply Ev.int)
  | ((with_reducible show Ev _ _ _ _ _ (PySem.Expr.Constant (PySem.Const.float _) _ _) _); with_reducible apply Ev.flt)
  | ((with_reducible show Ev _ _ _ _ _ (PySem.Expr.Constant (PySem.Const.bool _) _ _) _); with_reducible apply Ev.boolc)
  | ((with_reducible show Ev _ _ _ _ _ (PySem.Expr.Compare _ _ _ _) _); with_reducible apply Ev.cmp)
  | ((with_reducible show IsT _ _ _ _ _ (PySem.Expr.Compare _ _ _ _) _); with_reducible apply IsT.cmp)
  | ((with_reducible show CmpOk _ _ _ _ _); fail "cmp")
  | ((with_reducible show Ev _ _ _ _ _ (PySem.Expr.UnaryOp _ _ _) _); with_reducible apply Ev.neg)
  | ((with_reducible show Ev _ _ _ _ _ (PySem.Expr.Tuple _ _ _) _); with_reducible apply Ev.tup)
  | ((with_reducible show Ev _ _ _ _ _ (PySem.Expr.List _ _) _); with_reducible apply Ev.list)
  | ((with_reducible show EvAll _ _ _ _ _ [] _); with_reducible apply EvAll.nil)
  | ((with_reducible show EvAll _ _ _ _ _ (_ :: _) _); with_reducible apply EvAll.cons)
  | ((with_reducible show Ev _ _ _ _ _ (PySem.Expr.Call (PySem.Expr.Name (Str.ofString "len") _) _ _ _) _); with_reducible apply Ev.callB')
  | ((with_reducible show Ev _ _ _ _ _ (PySem.Expr.Call (PySem.Expr.Name (Str.ofString "max") _) _ _ _) _); with_reducible apply Ev.callB')
  | ((with_reducible show Ev _ _ _ _ _ (PySem.Expr.Call (PySem.Expr.Name (Str.ofString "min") _) _ _ _) _); with_reducible apply Ev.callB')
  | ((with_reducible show Ev _ _ _ _ _ (PySem.Expr.Call (PySem.Expr.Name (Str.ofString "sum") _) _ _ _) _); with_reducible apply Ev.callB')
  | ((with_reducible show Ev _ _ _ _ _ (PySem.Expr.Call (PySem.Expr.Name (Str.ofString "sorted") _) _ _ _) _); with_reducible apply Ev.callB')
  | ((with_reducible show Ev _ _ _ _ _ (PySem.Expr.Call (PySem.Expr.Name (Str.ofString "int") _) _ _ _) _); with_reducible apply Ev.callT')
  | ((with_reducible show Ev _ _ _ _ _ (PySem.Expr.Call (PySem.Expr.Attribute _ _ _) _ _ _) _); with_reducible apply Ev.bitLength)
  | ((with_reducible show Ev _ _ _ _ _ (PySem.Expr.Call (PySem.Expr.Name _ _) _ _ _) _); with_reducible apply Ev.call')
  | ((with_reducible show Blt _ _ _); fail "blt")
  | ((with_reducible show BOk _ _ _ _); fail "bok")
  | ((with_reducible show Ctr _ _ _ _ _); fail "ctr")
  | ((with_reducible show Env.kindOf _ _ = _); fail "gk")
  | ((with_reducible show starEach _ _ = _); with_unfolding_all rfl)
  | ((with_reducible show List.any _ _ = _); with_unfolding_all rfl)
  | ((with_reducible show behindInMarks _ _ = _); with_unfolding_all rfl)
  | ((with_reducible show List.length _ ≤ 1000); first | decide | (simp only [List.length_cons, List.length_nil]; decide))
  | ((with_reducible show PySem.Pos.endLine _ = _); decide)
  | ((with_reducible show (_ : Nat) ≤ _); decide)
  | fail "sub")
local macro_rules | `(tactic| fail "hyp") => `(tactic| first | with_reducible assumption | decide +kernel)
local macro_rules | `(tactic| fail "if") => `(tactic| first
  | ((with_reducible show ExsR _ _ _ _ _ (Stmt.If _ (Stmt.Return _ _ :: _) _ _ :: _) _); (with_reducible apply ExsR.ret); (with_reducible apply ExR.ifT'); (· fail "exs"); (· fail "hyp"))
  | ((with_reducible show ExsR _ _ _ _ _ (Stmt.If _ _ _ _ :: _) _); (with_reducible apply ExsR.cons); (with_reducible apply Ex.ifF'); (· fail "exs"); (· fail "hyp"))
  | ((with_reducible show ExsR _ _ _ _ _ (Stmt.If _ _ _ _ :: _) _); (with_reducible apply ExsR.cons); (with_reducible apply Ex.ifT'); (· fail "exs"); (· fail "hyp"))
  | ((with_reducible show Exs _ _ _ _ _ (Stmt.If _ _ _ _ :: _) _ _); (with_reducible apply Exs.cons); (with_reducible apply Ex.ifF'); (· fail "exs"); (· fail "hyp"))
  | ((with_reducible show Exs _ _ _ _ _ (Stmt.If _ _ _ _ :: _) _ _); (with_reducible apply Exs.cons); (with_reducible apply Ex.ifT'); (· fail "exs"); (· fail "hyp"))
  | ((with_reducible show Exs _ _ _ _ _ [] _ _); with_reducible apply Exs.nil)
  | ((with_reducible show Float64.isZero _ = false); fail "hyp"))
local macro_rules | `(tactic| fail "ex") => `(tactic| first
  | fail "ev"
  | ((with_reducible show Ex _ _ _ _ _ (Stmt.Assign [PySem.Expr.Name _ _] _ _) _ _); with_reducible apply Ex.assign)
  | ((with_reducible show Sto _ _); exact sto_fun (by assumption) (by decide +kernel))
  | ((with_reducible show ∀ p ∈ [], _); exact noOwn)
  | ((with_reducible show swapsWith _ _ _ _ = _); with_unfolding_all rfl)
  | ((with_reducible show ExsR _ _ _ _ _ (Stmt.Return _ _ :: _) _); (with_reducible apply ExsR.ret); (with_reducible apply ExR.ret))
  | ((with_reducible show ExsR _ _ _ _ _ (Stmt.Assign _ _ _ :: _) _); (with_reducible apply ExsR.cons))
  | ((with_reducible show Exs _ _ _ _ _ (Stmt.Assign _ _ _ :: _) _ _); (with_reducible apply Exs.cons))
  | ((with_reducible show ∀ _ : List Addr, _); intro X)
  | fail "if"
  | fail "sts")
local macro_rules | `(tactic| fail "sts") => `(tactic| fail)
local macro_rules | `(tactic| fail "evs") => `(tactic| repeat' (fail "ev"))
local macro_rules | `(tactic| fail "exs") => `(tactic| repeat' (fail "ex"))
variable {C : PC}
abbrev P := PySem.Challenge.pw_rl0030_01

theorem ctr_high_bit (h0 : Ctx C P) {n : Int} : Ctr C 1 (Str.ofString "_high_bit") [.int n] (.int (Builtin.Int.intBits n - 1)) := by
  refine Ctr.intro' (d := recAt P 11) (xs := [Str.ofString "value"]) [(Str.ofString "value", .int n)] h0.fn 6 (by kernel_rfl) (by kernel_rfl) ?_ (by decide +kernel) rfl (by decide +kernel) (by kernel_rfl) (by kernel_rfl) (by kernel_rfl) rfl ?_
  · rintro pm code doc (_ | ⟨value0, _ | _⟩) hl <;> first | rfl | cases hl
  · intro env fe
    change ExsR _ _ _ _ _ (_ :: _) _
    fail "exs"
theorem ctr_single_bit (h0 : Ctx C P) {n : Int} : Ctr C 1 (Str.ofString "_is_single_bit") [.int n] (.bool (singleBit n)) := by
  refine Ctr.intro' (d := recAt P 10) (xs := [Str.ofString "num"]) [(Str.ofString "num", .int n)] h0.fn 5 (by kernel_rfl) (by kernel_rfl) ?_ (by decide +kernel) rfl (by decide +kernel) (by kernel_rfl) (by kernel_rfl) (by kernel_rfl) rfl ?_
  · rintro pm code doc (_ | ⟨num0, _ | _⟩) hl <;> first | rfl | cases hl
  · intro env fe
    change ExsR _ _ _ _ _ (_ :: _) _
    unfold singleBit
    by_cases h0 : (n == 0) = true
    · rw [if_pos h0]
      refine ExsR.ret (ExR.ifT' (fun X => ?_) h0 ?_) <;> fail "exs"
    · rw [if_neg h0]
      refine ExsR.cons (Ex.ifF' (c := n == 0) (fun X => ?_) (by simpa using h0) Exs.nil) (ExsR.cons (Ex.augAnd (a := n) (b := n - 1) ?_ (fun X => ?_) (sto_fun fe (by decide +kernel)) noOwn) ?_) <;> fail "exs"
theorem ctr_hls_grey (h0 : Ctx C P) {r : UInt64} {g : UInt64} {b : UInt64} (h1 : greyF r g b = true) : Ctr C 1 (Str.ofString "rgb_to_hls") [.flt r, .flt g, .flt b] (.tup [.flt c0, .flt (lightF r g b), .flt c0]) := by
  refine Ctr.intro' (d := recAt P 4) (xs := [Str.ofString "r", Str.ofString "g", Str.ofString "b"]) [(Str.ofString "r", .flt r), (Str.ofString "g", .flt g), (Str.ofString "b", .flt b)] h0.fn 0 (by kernel_rfl) (by kernel_rfl) ?_ (by decide +kernel) rfl (by decide +kernel) (by kernel_rfl) (by kernel_rfl) (by kernel_rfl) rfl ?_
  · rintro pm code doc (_ | ⟨r0, _ | ⟨g0, _ | ⟨b0, _ | _⟩⟩⟩) hl <;> first | rfl | cases hl
  · intro env fe
    change ExsR _ _ _ _ _ (_ :: _) _
    unfold greyF minF maxF at h1
    unfold lightF minF maxF
    fail "exs"
set_option maxHeartbeats 4000000 in
theorem ctr_hls (h0 : Ctx C P) {r : UInt64} {g : UInt64} {b : UInt64} (h1 : greyF r g b = false) (h2 : Float64.isZero (rngF r g b) = false) (h3 : Float64.isZero (denF r g b) = false) : Ctr C 1 (Str.ofString "rgb_to_hls") [.flt r, .flt g, .flt b] (.tup [.flt (hueF r g b), .flt (lightF r g b), .flt (satF r g b)]) := by
  refine Ctr.intro' (d := recAt P 4) (xs := [Str.ofString "r", Str.ofString "g", Str.ofString "b"]) [(Str.ofString "r", .flt r), (Str.ofString "g", .flt g), (Str.ofString "b", .flt b)] h0.fn 0 (by kernel_rfl) (by kernel_rfl) ?_ (by decide +kernel) rfl (by decide +kernel) (by kernel_rfl) (by kernel_rfl) (by kernel_rfl) rfl ?_
  · rintro pm code doc (_ | ⟨r0, _ | ⟨g0, _ | ⟨b0, _ | _⟩⟩⟩) hl <;> first | rfl | cases hl
  · intro env fe
    change ExsR _ _ _ _ _ (_ :: _) _
    have h4 : Float64.isZero c2 = false := by decide +kernel
    have h5 : Float64.isZero c6 = false := by decide +kernel
    have h6 : Float64.isZero c1 = false := by decide +kernel
    unfold hueF satF modF rawHue
    unfold denF at h3 ⊢
    by_cases hl' : lowF (lightF r g b) = true
    · have hl : lowF (lightF r g b) = true := hl'
      rw [if_pos hl'] at h3 ⊢
      clear hl'
      by_cases hr : (Float64.cmp r (maxF r g b) == some .eq) = true
      · rw [if_pos hr]
        unfold greyF at h1; unfold lowF lightF at hl; unfold lightF; unfold chF; unfold rngF at h2 ⊢; unfold minF maxF at *
        fail "exs"
      · have hr' : (Float64.cmp r (maxF r g b) == some .eq) = false := by simpa using hr
        rw [if_neg hr]
        clear hr
        by_cases hg : (Float64.cmp g (maxF r g b) == some .eq) = true
        · rw [if_pos hg]
          unfold greyF at h1; unfold lowF lightF at hl; unfold lightF; unfold chF; unfold rngF at h2 ⊢; unfold minF maxF at *
          fail "exs"
        · have hg' : (Float64.cmp g (maxF r g b) == some .eq) = false := by simpa using hg
          rw [if_neg hg]
          clear hg
          unfold greyF at h1; unfold lowF lightF at hl; unfold lightF; unfold chF; unfold rngF at h2 ⊢; unfold minF maxF at *
          fail "exs"
    · have hl : lowF (lightF r g b) = false := by simpa using hl'
      rw [if_neg hl'] at h3 ⊢
      clear hl'
      by_cases hr : (Float64.cmp r (maxF r g b) == some .eq) = true
      · rw [if_pos hr]
        unfold greyF at h1; unfold lowF lightF at hl; unfold lightF; unfold chF; unfold rngF at h2 ⊢; unfold minF maxF at *
        fail "exs"
      · have hr' : (Float64.cmp r (maxF r g b) == some .eq) = false := by simpa using hr
        rw [if_neg hr]
        clear hr
        by_cases hg : (Float64.cmp g (maxF r g b) == some .eq) = true
        · rw [if_pos hg]
          unfold greyF at h1; unfold lowF lightF at hl; unfold lightF; unfold chF; unfold rngF at h2 ⊢; unfold minF maxF at *
          fail "exs"
        · have hg' : (Float64.cmp g (maxF r g b) == some .eq) = false := by simpa using hg
          rw [if_neg hg]
          clear hg
          unfold greyF at h1; unfold lowF lightF at hl; unfold lightF; unfold chF; unfold rngF at h2 ⊢; unfold minF maxF at *
          fail "exs"

theorem ctr_v (h0 : Ctx C P) {m1 : UInt64} {m2 : UInt64} {hue : UInt64} : Ctr C 1 (Str.ofString "_v") [.flt m1, .flt m2, .flt hue] (.flt (vF m1 m2 hue)) := by
  refine Ctr.intro' (d := recAt P 6) (xs := [Str.ofString "m1", Str.ofString "m2", Str.ofString "hue"]) [(Str.ofString "m1", .flt m1), (Str.ofString "m2", .flt m2), (Str.ofString "hue", .flt hue)] h0.fn 2 (by kernel_rfl) (by kernel_rfl) ?_ (by decide +kernel) rfl (by decide +kernel) (by kernel_rfl) (by kernel_rfl) (by kernel_rfl) rfl ?_
  · rintro pm code doc (_ | ⟨m10, _ | ⟨m20, _ | ⟨hue0, _ | _⟩⟩⟩) hl <;> first | rfl | cases hl
  · intro env fe
    change ExsR _ _ _ _ _ (_ :: _) _
    have h6 : Float64.isZero c1 = false := by decide +kernel
    unfold vF
    by_cases k1 : (Float64.cmp (modF hue) cSixth == some .lt) = true
    · rw [if_pos k1]
      unfold modF at *
      fail "exs"
    · have k1' : (Float64.cmp (modF hue) cSixth == some .lt) = false := by simpa using k1
      rw [if_neg k1]
      clear k1
      by_cases k2 : (Float64.cmp (modF hue) cHalf == some .lt) = true
      · rw [if_pos k2]
        unfold modF at *
        fail "exs"
      · have k2' : (Float64.cmp (modF hue) cHalf == some .lt) = false := by simpa using k2
        rw [if_neg k2]
        clear k2
        by_cases k3 : (Float64.cmp (modF hue) cTwo3 == some .lt) = true
        · rw [if_pos k3]
          unfold modF at *
          fail "exs"
        · have k3' : (Float64.cmp (modF hue) cTwo3 == some .lt) = false := by simpa using k3
          rw [if_neg k3]
          clear k3
          unfold modF at *
          fail "exs"
local macro_rules | `(tactic| fail "ctr") => `(tactic| with_reducible first | exact ctr_v (by assumption) | exact ctr_high_bit (by assumption) _ | exact ctr_single_bit (by assumption) _)
theorem ctr_hlsr_grey (h0 : Ctx C P) {h : UInt64} {l : UInt64} {s : UInt64} (h1 : (Float64.cmp s c0 == some .eq) = true) : Ctr C 1 (Str.ofString "hls_to_rgb") [.flt h, .flt l, .flt s] (.tup [.flt l, .flt l, .flt l]) := by
  refine Ctr.intro' (d := recAt P 5) (xs := [Str.ofString "h", Str.ofString "l", Str.ofString "s"]) [(Str.ofString "h", .flt h), (Str.ofString "l", .flt l), (Str.ofString "s", .flt s)] h0.fn 1 (by kernel_rfl) (by kernel_rfl) ?_ (by decide +kernel) rfl (by decide +kernel) (by kernel_rfl) (by kernel_rfl) (by kernel_rfl) rfl ?_
  · rintro pm code doc (_ | ⟨h0, _ | ⟨l0, _ | ⟨s0, _ | _⟩⟩⟩) hl <;> first | rfl | cases hl
  · intro env fe
    change ExsR _ _ _ _ _ (_ :: _) _
    fail "exs"
theorem ctr_hlsr (h0 : Ctx C P) {h : UInt64} {l : UInt64} {s : UInt64} (h1 : (Float64.cmp s c0 == some .eq) = false) : Ctr C 2 (Str.ofString "hls_to_rgb") [.flt h, .flt l, .flt s] (.tup [.flt (vF (m1F l s) (m2F l s) (Float64.add h cThird)), .flt (vF (m1F l s) (m2F l s) h), .flt (vF (m1F l s) (m2F l s) (Float64.sub h cThird))]) := by
  refine Ctr.intro' (d := recAt P 5) (xs := [Str.ofString "h", Str.ofString "l", Str.ofString "s"]) [(Str.ofString "h", .flt h), (Str.ofString "l", .flt l), (Str.ofString "s", .flt s)] h0.fn 1 (by kernel_rfl) (by kernel_rfl) ?_ (by decide +kernel) rfl (by decide +kernel) (by kernel_rfl) (by kernel_rfl) (by kernel_rfl) rfl ?_
  · rintro pm code doc (_ | ⟨h0, _ | ⟨l0, _ | ⟨s0, _ | _⟩⟩⟩) hl <;> first | rfl | cases hl
  · intro env fe
    change ExsR _ _ _ _ _ (_ :: _) _
    unfold m1F m2F
    by_cases hl' : lowF l = true
    · have hl : lowF l = true := hl'
      simp only [if_pos hl']
      clear hl'
      unfold lowF at hl
      fail "exs"
    · have hl : lowF l = false := by simpa using hl'
      simp only [if_neg hl']
      clear hl'
      unfold lowF at hl
      fail "exs"
set_option maxHeartbeats 4000000 in
theorem ctr_hsv (h0 : Ctx C P) {r : UInt64} {g : UInt64} {b : UInt64} (h1 : greyF r g b = false) (h2 : Float64.isZero (rngF r g b) = false) (h3 : Float64.isZero (maxF r g b) = false) : Ctr C 1 (Str.ofString "rgb_to_hsv") [.flt r, .flt g, .flt b] (.tup [.flt (hueF r g b), .flt (satV r g b), .flt (maxF r g b)]) := by
  refine Ctr.intro' (d := recAt P 7) (xs := [Str.ofString "r", Str.ofString "g", Str.ofString "b"]) [(Str.ofString "r", .flt r), (Str.ofString "g", .flt g), (Str.ofString "b", .flt b)] h0.fn 3 (by kernel_rfl) (by kernel_rfl) ?_ (by decide +kernel) rfl (by decide +kernel) (by kernel_rfl) (by kernel_rfl) (by kernel_rfl) rfl ?_
  · rintro pm code doc (_ | ⟨r0, _ | ⟨g0, _ | ⟨b0, _ | _⟩⟩⟩) hl <;> first | rfl | cases hl
  · intro env fe
    change ExsR _ _ _ _ _ (_ :: _) _
    have h5 : Float64.isZero c6 = false := by decide +kernel
    have h6 : Float64.isZero c1 = false := by decide +kernel
    unfold hueF satV modF rawHue
    by_cases hr : (Float64.cmp r (maxF r g b) == some .eq) = true
    · rw [if_pos hr]
      unfold greyF at h1; unfold chF; unfold rngF at h2 ⊢; unfold minF maxF at *
      fail "exs"
    · have hr' : (Float64.cmp r (maxF r g b) == some .eq) = false := by simpa using hr
      rw [if_neg hr]
      clear hr
      by_cases hg : (Float64.cmp g (maxF r g b) == some .eq) = true
      · rw [if_pos hg]
        unfold greyF at h1; unfold chF; unfold rngF at h2 ⊢; unfold minF maxF at *
        fail "exs"
      · have hg' : (Float64.cmp g (maxF r g b) == some .eq) = false := by simpa using hg
        rw [if_neg hg]
        clear hg
        unfold greyF at h1; unfold chF; unfold rngF at h2 ⊢; unfold minF maxF at *
        fail "exs"

theorem ctr_hsvr_grey (h0 : Ctx C P) {h : UInt64} {s : UInt64} {v : UInt64} (h1 : (Float64.cmp s c0 == some .eq) = true) : Ctr C 1 (Str.ofString "hsv_to_rgb") [.flt h, .flt s, .flt v] (.tup [.flt v, .flt v, .flt v]) := by
  refine Ctr.intro' (d := recAt P 8) (xs := [Str.ofString "h", Str.ofString "s", Str.ofString "v"]) [(Str.ofString "h", .flt h), (Str.ofString "s", .flt s), (Str.ofString "v", .flt v)] h0.fn 4 (by kernel_rfl) (by kernel_rfl) ?_ (by decide +kernel) rfl (by decide +kernel) (by kernel_rfl) (by kernel_rfl) (by kernel_rfl) rfl ?_
  · rintro pm code doc (_ | ⟨h0, _ | ⟨s0, _ | ⟨v0, _ | _⟩⟩⟩) hl <;> first | rfl | cases hl
  · intro env fe
    change ExsR _ _ _ _ _ (_ :: _) _
    fail "exs"
set_option maxHeartbeats 4000000 in
theorem ctr_hsvr (h0 : Ctx C P) {h : UInt64} {s : UInt64} {v : UInt64} (h1 : (Float64.cmp s c0 == some .eq) = false) (h2 : Float64.isFinite (Float64.mul h c6) = true) (h3 : (secF h).natAbs < 2 ^ 1023) : Ctr C 1 (Str.ofString "hsv_to_rgb") [.flt h, .flt s, .flt v] (.tup (hsvOut ((secF h).fmod 6) h s v)) := by
  refine Ctr.intro' (d := recAt P 8) (xs := [Str.ofString "h", Str.ofString "s", Str.ofString "v"]) [(Str.ofString "h", .flt h), (Str.ofString "s", .flt s), (Str.ofString "v", .flt v)] h0.fn 4 (by kernel_rfl) (by kernel_rfl) ?_ (by decide +kernel) rfl (by decide +kernel) (by kernel_rfl) (by kernel_rfl) (by kernel_rfl) rfl ?_
  · rintro pm code doc (_ | ⟨h0, _ | ⟨s0, _ | ⟨v0, _ | _⟩⟩⟩) hl <;> first | rfl | cases hl
  · intro env fe
    change ExsR _ _ _ _ _ (_ :: _) _
    have r0 := Int.fmod_nonneg_of_pos (secF h) (show (0:Int) < 6 by decide)
    have r1 := Int.fmod_lt_of_pos (secF h) (show (0:Int) < 6 by decide)
    have hj : (secF h).fmod 6 = 0 ∨ (secF h).fmod 6 = 1 ∨ (secF h).fmod 6 = 2 ∨ (secF h).fmod 6 = 3 ∨ (secF h).fmod 6 = 4 ∨ (secF h).fmod 6 = 5 := by omega
    unfold hsvOut tF pF qF fracF
    rcases hj with hj | hj | hj | hj | hj | hj
    · have e : hsvOut 0 h s v = hsvOut 0 h s v := rfl
      have e0 : ((secF h).fmod 6 == 0) = true := by rw [hj]; decide
      have e1 : ((secF h).fmod 6 == 1) = false := by rw [hj]; decide
      have e2 : ((secF h).fmod 6 == 2) = false := by rw [hj]; decide
      have e3 : ((secF h).fmod 6 == 3) = false := by rw [hj]; decide
      have e4 : ((secF h).fmod 6 == 4) = false := by rw [hj]; decide
      have e5 : ((secF h).fmod 6 == 5) = false := by rw [hj]; decide
      rw [hj]
      simp only [show ((0 : Int) = 0) = True by simp, if_true, if_false]
      unfold secF at *
      fail "exs"
      all_goals first | assumption | decide
    · have e : hsvOut 1 h s v = hsvOut 1 h s v := rfl
      have e0 : ((secF h).fmod 6 == 0) = false := by rw [hj]; decide
      have e1 : ((secF h).fmod 6 == 1) = true := by rw [hj]; decide
      have e2 : ((secF h).fmod 6 == 2) = false := by rw [hj]; decide
      have e3 : ((secF h).fmod 6 == 3) = false := by rw [hj]; decide
      have e4 : ((secF h).fmod 6 == 4) = false := by rw [hj]; decide
      have e5 : ((secF h).fmod 6 == 5) = false := by rw [hj]; decide
      rw [hj]
      simp only [show ((1 : Int) = 0) = False by simp, show ((1 : Int) = 1) = True by simp, if_true, if_false]
      unfold secF at *
      fail "exs"
      all_goals first | assumption | decide
    · have e : hsvOut 2 h s v = hsvOut 2 h s v := rfl
      have e0 : ((secF h).fmod 6 == 0) = false := by rw [hj]; decide
      have e1 : ((secF h).fmod 6 == 1) = false := by rw [hj]; decide
      have e2 : ((secF h).fmod 6 == 2) = true := by rw [hj]; decide
      have e3 : ((secF h).fmod 6 == 3) = false := by rw [hj]; decide
      have e4 : ((secF h).fmod 6 == 4) = false := by rw [hj]; decide
      have e5 : ((secF h).fmod 6 == 5) = false := by rw [hj]; decide
      rw [hj]
      simp only [show ((2 : Int) = 0) = False by simp, show ((2 : Int) = 1) = False by simp, show ((2 : Int) = 2) = True by simp, if_true, if_false]
      unfold secF at *
      fail "exs"
      all_goals first | assumption | decide
    · have e : hsvOut 3 h s v = hsvOut 3 h s v := rfl
      have e0 : ((secF h).fmod 6 == 0) = false := by rw [hj]; decide
      have e1 : ((secF h).fmod 6 == 1) = false := by rw [hj]; decide
      have e2 : ((secF h).fmod 6 == 2) = false := by rw [hj]; decide
      have e3 : ((secF h).fmod 6 == 3) = true := by rw [hj]; decide
      have e4 : ((secF h).fmod 6 == 4) = false := by rw [hj]; decide
      have e5 : ((secF h).fmod 6 == 5) = false := by rw [hj]; decide
      rw [hj]
      simp only [show ((3 : Int) = 0) = False by simp, show ((3 : Int) = 1) = False by simp, show ((3 : Int) = 2) = False by simp, show ((3 : Int) = 3) = True by simp, if_true, if_false]
      unfold secF at *
      fail "exs"
      all_goals first | assumption | decide
    · have e : hsvOut 4 h s v = hsvOut 4 h s v := rfl
      have e0 : ((secF h).fmod 6 == 0) = false := by rw [hj]; decide
      have e1 : ((secF h).fmod 6 == 1) = false := by rw [hj]; decide
      have e2 : ((secF h).fmod 6 == 2) = false := by rw [hj]; decide
      have e3 : ((secF h).fmod 6 == 3) = false := by rw [hj]; decide
      have e4 : ((secF h).fmod 6 == 4) = true := by rw [hj]; decide
      have e5 : ((secF h).fmod 6 == 5) = false := by rw [hj]; decide
      rw [hj]
      simp only [show ((4 : Int) = 0) = False by simp, show ((4 : Int) = 1) = False by simp, show ((4 : Int) = 2) = False by simp, show ((4 : Int) = 3) = False by simp, show ((4 : Int) = 4) = True by simp, if_true, if_false]
      unfold secF at *
      fail "exs"
      all_goals first | assumption | decide
    · have e : hsvOut 5 h s v = hsvOut 5 h s v := rfl
      have e0 : ((secF h).fmod 6 == 0) = false := by rw [hj]; decide
      have e1 : ((secF h).fmod 6 == 1) = false := by rw [hj]; decide
      have e2 : ((secF h).fmod 6 == 2) = false := by rw [hj]; decide
      have e3 : ((secF h).fmod 6 == 3) = false := by rw [hj]; decide
      have e4 : ((secF h).fmod 6 == 4) = false := by rw [hj]; decide
      have e5 : ((secF h).fmod 6 == 5) = true := by rw [hj]; decide
      rw [hj]
      simp only [show ((5 : Int) = 0) = False by simp, show ((5 : Int) = 1) = False by simp, show ((5 : Int) = 2) = False by simp, show ((5 : Int) = 3) = False by simp, show ((5 : Int) = 4) = False by simp, if_true, if_false]
      unfold secF at *
      fail "exs"
      all_goals first | assumption | decide
/-- mirrored through hls: both calls -/
theorem hls_mir (h0 : Ctx C P) {p : Nat → Int} {u c : Nat} (h : Parts p u c) {g : Nat} (hg : g < 3) : ∃ (j : Nat) (hh ss vv x y z : UInt64), j ≤ 2 ∧
    Ctr C 1 (Str.ofString "rgb_to_hls") [.flt (frF (p 0) u), .flt (frF (p 1) u), .flt (frF (p 2) u)] (.tup [.flt hh, .flt ss, .flt vv]) ∧
    Ctr C j (Str.ofString "hls_to_rgb") [.flt (Float64.sub (frF ((2 * g : Nat) : Int) 3) hh), .flt ss, .flt vv] (.tup [.flt x, .flt y, .flt z]) ∧
    RndOk x u (p ((2 * g + 2 * 0) % 3)) ∧ RndOk y u (p ((2 * g + 2 * 1) % 3)) ∧ RndOk z u (p ((2 * g + 2 * 2) % 3)) := by
  by_cases e : mnP p c = mxP p c
  · have gr := h.greyL e
    have q : ∀ a, p (a % 3) = p 0 := fun a => (h.alike e _ (Nat.mod_lt _ (by decide))).1
    refine ⟨1, _, _, _, _, _, _, by decide, ctr_hls_grey h0 (by rw [h.grey, decide_eq_true e]), ctr_hlsr_grey h0 c0_eq, ?_, ?_, ?_⟩ <;> rw [q] <;> exact gr
  · obtain ⟨z1, z2, rest⟩ := h.mirL e hg
    exact ⟨2, _, _, _, _, _, _, by decide, ctr_hls h0 (by rw [h.grey, decide_eq_false e]) (h.rng0 e) z1, ctr_hlsr h0 z2, rest⟩
/-- mirrored back through hsv at the greatest lamp: both calls and the peg -/
theorem hsv_mir (h0 : Ctx C P) {p : Nat → Int} {u c : Nat} (h : Parts p u c) {g : Nat} (hg : g < 3) (hmax : ∀ a, a < 3 → a ≠ g → p a < p g) : ∃ (hh ss vv x y z : UInt64),
    Ctr C 1 (Str.ofString "rgb_to_hsv") [.flt (frF (p 0) u), .flt (frF (p 1) u), .flt (frF (p 2) u)] (.tup [.flt hh, .flt ss, .flt vv]) ∧
    Float64.isFinite (pegF hh) = true ∧ (toI (pegF hh)).fmod 3 = (g : Int) ∧
    Ctr C 1 (Str.ofString "hsv_to_rgb") [.flt (modF (Float64.sub (frF ((2 * g : Nat) : Int) 3) hh)), .flt ss, .flt vv] (.tup [.flt x, .flt y, .flt z]) ∧
    RndOk x u (p ((2 * g + 2 * 0) % 3)) ∧ RndOk y u (p ((2 * g + 2 * 1) % 3)) ∧ RndOk z u (p ((2 * g + 2 * 2) % 3)) := by
  have e : mnP p c ≠ mxP p c := by
    intro e
    have q := h.alike e
    have q1 := (q 1 (by decide)).1
    have q2 := (q 2 (by decide)).1
    have l0 := hmax 0 (by decide); have l1 := hmax 1 (by decide)
    rcases three hg with rfl | rfl | rfl <;> simp at l0 l1 <;> omega
  obtain ⟨pf, pg⟩ := h.peg hg hmax
  obtain ⟨z1, z2, z3, z4, x, y, z, eo, rest⟩ := h.mirV e hg
  refine ⟨_, _, _, x, y, z, ctr_hsv h0 (by rw [h.grey, decide_eq_false e]) (h.rng0 e) z1, pf, pg, ?_, rest⟩
  rw [← eo]
  exact ctr_hsvr h0 z2 z3 z4
def mir (g a : Nat) : Nat := (2 * g + 2 * a) % 3
/-- the tower's colour -/
def hpaint (t : Nat → Nat) (w : Int) : Nat → Nat → Int
  | 0 => fun _ => w
  | k + 1 => fun a => hpaint t w k (mir (t k) a) + (if a = t k then 2 ^ k else 0)
theorem mir_lt (g a : Nat) : mir g a < 3 := Nat.mod_lt _ (by decide)
theorem mir_mir {g a : Nat} (ha : a < 3) : mir g (mir g a) = a := by unfold mir; omega
theorem mir_self {g : Nat} (hg : g < 3) : mir g g = g := by unfold mir; omega
theorem mir_ne {g a : Nat} (hg : g < 3) (ha : a < 3) (h : a ≠ g) : mir g a ≠ g ∧ mir g a ≠ a := by unfold mir; omega
theorem p2 (k : Nat) : (0 : Int) < 2 ^ k := Int.pow_pos (by decide)
theorem hpaint_bd (t : Nat → Nat) (w : Int) : ∀ k a, w ≤ hpaint t w k a ∧ hpaint t w k a ≤ w + 2 ^ k - 1
  | 0, a => by unfold hpaint; rw [Int.pow_zero]; omega
  | k + 1, a => by
    have ih := hpaint_bd t w k (mir (t k) a)
    have := p2 k
    show w ≤ hpaint t w k (mir (t k) a) + _ ∧ hpaint t w k (mir (t k) a) + _ ≤ _
    rw [Int.pow_succ]
    split <;> omega
theorem hpaint_max (t : Nat → Nat) (w : Int) {k : Nat} (ht : t k < 3) : ∀ a, a < 3 → a ≠ t k → hpaint t w (k + 1) a < hpaint t w (k + 1) (t k) := by
  intro a _ hne
  have b1 := hpaint_bd t w k (mir (t k) a)
  have b2 := hpaint_bd t w k (mir (t k) (t k))
  show hpaint t w k (mir (t k) a) + _ < hpaint t w k (mir (t k) (t k)) + _
  rw [if_neg hne, if_pos rfl]
  omega
theorem hpaint_back (t : Nat → Nat) (w : Int) {k : Nat} (ht : t k < 3) {a : Nat} (ha : a < 3) : hpaint t w (k + 1) (mir (t k) a) - (if a = t k then 2 ^ k else 0) = hpaint t w k a := by
  show hpaint t w k (mir (t k) (mir (t k) a)) + _ - _ = _
  rw [mir_mir ha]
  by_cases e : a = t k
  · subst e; rw [mir_self ht]; simp
  · have : mir (t k) a ≠ t k := (mir_ne ht ha e).1
    rw [if_neg this, if_neg e]; omega
theorem pow2n (k : Nat) : ((2 ^ k : Nat) : Int) = 2 ^ k := by push_cast; rfl
/-- the parts of a tower of n discs, the white below 2 ^ n -/
theorem hpaint_parts (t : Nat → Nat) {w : Int} {n k : Nat} (hn : n ≤ 9) (hk : k ≤ n) (w0 : 0 ≤ w) (w1 : w < 2 ^ n) : Parts (hpaint t w k) (2 ^ (n + 1)) (2 ^ (9 - n)) := by
  refine ⟨?_, fun a ha => ?_⟩
  · rw [← Nat.pow_add, show n + 1 + (9 - n) = 10 by omega]
  · have b := hpaint_bd t w k a
    have e : (2 : Int) ^ k ≤ 2 ^ n := by
      rw [← pow2n, ← pow2n]; exact Int.ofNat_le.mpr (Nat.pow_le_pow_right (by decide) hk)
    rw [pow2n, Int.pow_succ]
    omega
local macro_rules | `(tactic| fail "sub") => `(tactic| first
  | ((with_reducible show Ev _ _ _ _ _ (PySem.Expr.Subscript (PySem.Expr.Name (Str.ofString "lamps") _) _ _) _); with_reducible apply Ev.indexT)
  | ((with_reducible show Ev _ _ _ _ _ (PySem.Expr.Subscript _ (PySem.Expr.Name _ _) _) _); with_reducible apply Ev.index)
  | ((with_reducible show Ev _ _ _ _ _ (PySem.Expr.Subscript _ (PySem.Expr.Constant _ _ _) _) _); with_reducible apply Ev.index)
  | ((with_reducible show Ev _ _ _ _ _ (PySem.Expr.Subscript _ (PySem.Expr.BinOp _ _ _ _) _) _); with_reducible apply Ev.index)
  | ((with_reducible show Ev _ _ _ _ _ (PySem.Expr.IfExp _ _ _ _) _); with_reducible apply Ev.ifI)
  | ((with_reducible show ∀ _ _, subscripted _ _ _ _ = _); intro _ _; with_unfolding_all rfl)
  | ((with_reducible show (_ : Option D) = some _); rfl)
  | ((with_reducible show (_ : Int) < 9223372036854775808); decide)
  | ((with_reducible show (_ : Int) < 2 ^ 63); first | decide | omega)
  | ((with_reducible show (0 : Int) ≤ _); first | decide | omega)
  | ((with_reducible show (_ : Int) ≠ 0); first | decide | omega)
  | ((with_reducible show Int.natAbs _ < _); first | decide | omega)
  | ((with_reducible show (_ : Int) ≤ 1000000); first | decide | omega))

local macro_rules | `(tactic| fail "ctr") => `(tactic| first
  | ((with_reducible show Ctr _ _ (Str.ofString "_high_bit") _ _); exact ctr_high_bit (by assumption))
  | ((with_reducible show Ctr _ _ (Str.ofString "_is_single_bit") _ _); exact ctr_single_bit (by assumption))
  | with_reducible assumption)
def tow (t : Nat → Nat) (n : Nat) : List Int := (List.range n).map fun k => ((t k : Nat) : Int)
theorem tow_len (t : Nat → Nat) (n : Nat) : (tow t n).length = n := by simp [tow]
theorem nlen (ns : List Int) : (nums ns).length = ns.length := by unfold nums; rw [List.length_map]
theorem tow_at {t : Nat → Nat} {n k : Nat} (h : k < n) : (nums (tow t n))[((k : Nat) : Int).toNat]? = some (.int ((t k : Nat) : Int)) := by
  rw [Int.toNat_natCast]; unfold nums tow
  rw [List.map_map, List.getElem?_map, List.getElem?_range h]; rfl
local macro_rules | `(tactic| fail "sub") => `(tactic| ((with_reducible show (_ : Option D) = some _); first | exact tow_at (by omega) | rfl))
def forBody : Stmt → List Stmt
  | .For _ _ b _ _ => b
  | _ => []
structure Tw (t : Nat → Nat) (n : Nat) (w : Int) : Prop where
  n9 : n ≤ 9
  t3 : ∀ k, t k < 3
  w0 : 0 ≤ w
  w1 : w < 2 ^ n
theorem hp_eq (t : Nat → Nat) (w : Int) (i a : Nat) (u : Int) (hu : u = hpaint t w i ((2 * t i + 2 * a) % 3)) : u + (if ((a : Int) == ((t i : Nat) : Int)) = true then (2 : Int) ^ ((i : Nat) : Int).toNat else 0) = hpaint t w (i + 1) a := by
  show _ = hpaint t w i (mir (t i) a) + _
  unfold mir
  rw [hu, Int.toNat_natCast]
  congr 1
  by_cases e : a = t i
  · rw [if_pos e, if_pos (by simp; omega)]
  · rw [if_neg e, if_neg (by simp; omega)]
set_option maxHeartbeats 4000000 in
theorem hpaint_body (h0 : Ctx C P) {t : Nat → Nat} {n : Nat} {w : Int} (ht : Tw t n w) {env : Env} (fe : FEnv env (recAt P 13).scope) {i : Nat} (hi : i < n) :
    Exs C 3 env [(Str.ofString "k", .int i), (Str.ofString "parts", tri (hpaint t w i)), (Str.ofString "pegs", .list (nums (tow t n))), (Str.ofString "unit", .int ((2 ^ (n + 1) : Nat) : Int))] [] (forBody ((recAt P 13).body.getD 1 (.Pass ⟨0, 0, 0, 0⟩)))
      [(Str.ofString "parts", tri (hpaint t w (i + 1))), (Str.ofString "pegs", .list (nums (tow t n))), (Str.ofString "unit", .int ((2 ^ (n + 1) : Nat) : Int))] [] := by
  have hn9 := ht.n9
  have ht3 := ht.t3 i
  have pt := hpaint_parts t hn9 (Nat.le_of_lt hi) ht.w0 ht.w1
  obtain ⟨j, hh, ss, vv, x, y, z, hj, C1, C2, r0, r1, r2⟩ := hls_mir h0 pt ht3
  have hj3 : j ≤ 3 := by omega
  have hpw : (0 : Int) < ((2 ^ (n + 1) : Nat) : Int) := Int.ofNat_lt.mpr (Nat.two_pow_pos _)
  have hpl : ((2 ^ (n + 1) : Nat) : Int) ≤ 1024 := Int.ofNat_le.mpr (Nat.pow_le_pow_right (show 0 < 2 by decide) (show n + 1 ≤ 10 by omega))
  have a0 := pt.le 0 (by decide)
  have a1 := pt.le 1 (by decide)
  have a2 := pt.le 2 (by decide)
  have e2 : ((2 * t i : Nat) : Int) = ((t i : Nat) : Int) * 2 := by push_cast; omega
  rw [e2] at C2
  unfold frF at C1 C2
  change Exs _ _ _ _ _ (_ :: _) _ _
  refine Exs.cons (Ex.tup3 (d1 := .flt hh) (d2 := .flt ss) (d3 := .flt vv) (fun X => (by unfold tri; fail "evs")) (sto_fun fe (by decide +kernel)) (sto_fun fe (by decide +kernel)) (sto_fun fe (by decide +kernel)) rfl (by with_unfolding_all rfl) (by with_unfolding_all rfl)) ?_
  refine Exs.cons (Ex.assign (d := .tup [.flt x, .flt y, .flt z]) (fun X => (by fail "evs" <;> assumption)) (sto_fun fe (by decide +kernel)) noOwn (by with_unfolding_all rfl)) ?_
  refine Exs.cons (Ex.comp3 (e0 := hpaint t w (i + 1) 0) (e1 := hpaint t w (i + 1) 1) (e2 := hpaint t w (i + 1) 2) (lc := [(Str.ofString "k", .int i), (Str.ofString "lamps", .tup [.flt x, .flt y, .flt z]), (Str.ofString "pegs", .list (nums (tow t n))), (Str.ofString "unit", .int ((2 ^ (n + 1) : Nat) : Int))]) fe (fun X => ItR.range1 h0.range (gk_fun fe (by decide +kernel)) (Ev.cast (d := .int 3) Ev.int rfl) (by decide) (by decide +kernel) (by with_unfolding_all rfl)) (by decide +kernel) (by with_unfolding_all rfl) (by decide +kernel) (by decide +kernel) (by decide +kernel) (Caps.cons (by fail "has") (by decide +kernel) (by decide +kernel) (Caps.cons (by fail "has") (by decide +kernel) (by decide +kernel) (Caps.cons (by fail "has") (by decide +kernel) (by decide +kernel) (Caps.cons (by fail "has") (by decide +kernel) (by decide +kernel) Caps.nil)))) (by intro x; with_unfolding_all rfl) (sto_fun fe (by decide +kernel)) noOwn ?_ ?_ ?_) ?_
  · intro X env' ce
    refine Ev.cast (d := .int (toI (rndF x ((2 ^ (n + 1) : Nat) : Int)) + (if ((0 : Int) == ((t i : Nat) : Int)) = true then (2 : Int) ^ ((i : Nat) : Int).toNat else 0))) ?_ (by rw [← hp_eq t w i 0 _ rfl, r0.2]; rfl)
    unfold rndF
    fail "evs"
    exact r0.1
  · intro X env' ce
    refine Ev.cast (d := .int (toI (rndF y ((2 ^ (n + 1) : Nat) : Int)) + (if ((1 : Int) == ((t i : Nat) : Int)) = true then (2 : Int) ^ ((i : Nat) : Int).toNat else 0))) ?_ (by rw [← hp_eq t w i 1 _ rfl, r1.2]; rfl)
    unfold rndF
    fail "evs"
    exact r1.1
  · intro X env' ce
    refine Ev.cast (d := .int (toI (rndF z ((2 ^ (n + 1) : Nat) : Int)) + (if ((2 : Int) == ((t i : Nat) : Int)) = true then (2 : Int) ^ ((i : Nat) : Int).toNat else 0))) ?_ (by rw [← hp_eq t w i 2 _ rfl, r2.2]; rfl)
    unfold rndF
    fail "evs"
    exact r2.1
  refine Exs.less Exs.nil ?_
  exact (Fewer.cons (by first | fail "has" | (unfold tri; fail "has")) (Fewer.cons (by first | fail "has" | (unfold tri; fail "has")) (Fewer.cons (by first | fail "has" | (unfold tri; fail "has")) Fewer.nil)))
set_option maxHeartbeats 4000000 in
theorem ctr_hpainted (h0 : Ctx C P) {t : Nat → Nat} {n : Nat} {w : Int} (ht : Tw t n w) : Ctr C 4 (Str.ofString "_law_painted") [.list (nums (tow t n)), .int w, .int ((2 ^ (n + 1) : Nat) : Int)] (tri (hpaint t w n)) := by
  have hn9 := ht.n9
  have hlen : (nums (tow t n)).length = n := by rw [nlen, tow_len]
  refine Ctr.intro' (d := recAt P 13) (xs := [Str.ofString "pegs", Str.ofString "white", Str.ofString "unit"]) [(Str.ofString "pegs", .list (nums (tow t n))), (Str.ofString "white", .int w), (Str.ofString "unit", .int ((2 ^ (n + 1) : Nat) : Int))] h0.fn 7 (by kernel_rfl) (by kernel_rfl) ?_ (by decide +kernel) rfl (by decide +kernel) (by kernel_rfl) (by kernel_rfl) (by kernel_rfl) rfl ?_
  · rintro pm code doc (_ | ⟨pegs0, _ | ⟨white0, _ | ⟨unit0, _ | _⟩⟩⟩) hl <;> first | rfl | cases hl
  · intro env fe
    change ExsR _ _ _ _ _ (_ :: _) _
    refine ExsR.cons (Ex.assign (d := tri (hpaint t w 0)) (fun X => Ev.cast (by fail "evs") (by rfl)) (sto_fun fe (by decide +kernel)) noOwn (by with_unfolding_all rfl)) ?_
    refine ExsR.cons (Ex.forR (n := n) (fun i => [(Str.ofString "parts", tri (hpaint t w i)), (Str.ofString "pegs", .list (nums (tow t n))), (Str.ofString "unit", .int ((2 ^ (n + 1) : Nat) : Int))]) (fun _ => []) (fun X => ItR.range1 h0.range (gk_fun fe (by decide +kernel)) (Ev.cast (by fail "evs" <;> (rw [hlen]; omega)) (by rw [hlen])) (by omega) (by decide +kernel) (by with_unfolding_all rfl)) (Fewer.cons (by fail "has") (Fewer.cons (by fail "has") (Fewer.cons (by fail "has") Fewer.nil))) rfl (sto_fun fe (by decide +kernel)) (fun _ => noOwn) ?_ (by intro y; with_unfolding_all rfl)) ?_
    · intro i hi
      have e : (0 : Int) + (i : Int) * 1 = (i : Int) := by omega
      rw [e]
      exact hpaint_body h0 ht fe hi
    · refine ExsR.ret (ExR.ret fun X => ?_)
      fail "evs"
local macro_rules | `(tactic| fail "sub") => `(tactic| ((with_reducible show (_ : Option D) = some _); first | exact tow_at (by omega) | rfl))
theorem tow_drop {t : Nat → Nat} {n i : Nat} (h : i < n) : (tow t n).drop i = ((t i : Nat) : Int) :: (tow t n).drop (i + 1) := by
  rw [List.drop_eq_getElem_cons (by rw [tow_len]; exact h)]
  congr 1
  simp [tow]
theorem nums_cons (z : Int) (ns : List Int) : nums (z :: ns) = .int z :: nums ns := rfl
theorem back_eq (t : Nat → Nat) (w : Int) (i a : Nat) (ht : t i < 3) (ha : a < 3) (u : Int) (hu : u = hpaint t w (i + 1) ((2 * t i + 2 * a) % 3)) : u - (if ((a : Int) == ((t i : Nat) : Int)) = true then (2 : Int) ^ ((i : Nat) : Int).toNat else 0) = hpaint t w i a := by
  rw [← hpaint_back t w ht ha, hu, Int.toNat_natCast]
  unfold mir
  congr 1
  by_cases e : a = t i
  · rw [if_pos e, if_pos (by simp; omega)]
  · rw [if_neg e, if_neg (by simp; omega)]
set_option maxHeartbeats 4000000 in
theorem hread_body (h0 : Ctx C P) {t : Nat → Nat} {n : Nat} {w : Int} (ht : Tw t n w) {env : Env} (fe : FEnv env (recAt P 14).scope) {i : Nat} (hi : i < n) :
    Exs C 3 env [(Str.ofString "k", .int i), (Str.ofString "pegs", .list (nums ((tow t n).drop (i + 1)))), (Str.ofString "rest", tri (hpaint t w (i + 1))), (Str.ofString "unit", .int ((2 ^ (n + 1) : Nat) : Int))] [] (forBody ((recAt P 14).body.getD 2 (.Pass ⟨0, 0, 0, 0⟩)))
      [(Str.ofString "pegs", .list (nums ((tow t n).drop (i)))), (Str.ofString "rest", tri (hpaint t w i)), (Str.ofString "unit", .int ((2 ^ (n + 1) : Nat) : Int))] [] := by
  have hn9 := ht.n9
  have ht3 := ht.t3 i
  have pt := hpaint_parts t (k := i + 1) hn9 hi ht.w0 ht.w1
  obtain ⟨hh, ss, vv, x, y, z, C1, pf, pg, C2, r0, r1, r2⟩ := hsv_mir h0 pt ht3 (hpaint_max t w ht3)
  have hpw : (0 : Int) < ((2 ^ (n + 1) : Nat) : Int) := Int.ofNat_lt.mpr (Nat.two_pow_pos _)
  have hpl : ((2 ^ (n + 1) : Nat) : Int) ≤ 1024 := Int.ofNat_le.mpr (Nat.pow_le_pow_right (show 0 < 2 by decide) (show n + 1 ≤ 10 by omega))
  have a0 := pt.le 0 (by decide)
  have a1 := pt.le 1 (by decide)
  have a2 := pt.le 2 (by decide)
  have e2 : ((2 * t i : Nat) : Int) = ((t i : Nat) : Int) * 2 := by push_cast; omega
  rw [e2] at C2
  unfold frF at C1 C2
  unfold modF at C2
  unfold pegF at pf pg
  change Exs _ _ _ _ _ (_ :: _) _ _
  refine Exs.cons (Ex.tup3 (d1 := .flt hh) (d2 := .flt ss) (d3 := .flt vv) (fun X => (by unfold tri; fail "evs")) (sto_fun fe (by decide +kernel)) (sto_fun fe (by decide +kernel)) (sto_fun fe (by decide +kernel)) rfl (by with_unfolding_all rfl) (by with_unfolding_all rfl)) ?_
  refine Exs.cons (Ex.assign (d := .int ((t i : Nat) : Int)) (fun X => Ev.cast (by fail "evs" <;> assumption) (by rw [pg])) (sto_fun fe (by decide +kernel)) noOwn (by with_unfolding_all rfl)) ?_
  refine Exs.cons (Ex.assign (d := .tup [.flt x, .flt y, .flt z]) (fun X => (by fail "evs" <;> first | assumption | decide +kernel)) (sto_fun fe (by decide +kernel)) noOwn (by with_unfolding_all rfl)) ?_
  refine Exs.cons (Ex.comp3 (e0 := hpaint t w i 0) (e1 := hpaint t w i 1) (e2 := hpaint t w i 2) (lc := [(Str.ofString "k", .int i), (Str.ofString "lamps", .tup [.flt x, .flt y, .flt z]), (Str.ofString "peg", .int ((t i : Nat) : Int)), (Str.ofString "unit", .int ((2 ^ (n + 1) : Nat) : Int))]) fe (fun X => ItR.range1 h0.range (gk_fun fe (by decide +kernel)) (Ev.cast (d := .int 3) Ev.int rfl) (by decide) (by decide +kernel) (by with_unfolding_all rfl)) (by decide +kernel) (by with_unfolding_all rfl) (by decide +kernel) (by decide +kernel) (by decide +kernel) (Caps.cons (by fail "has") (by decide +kernel) (by decide +kernel) (Caps.cons (by fail "has") (by decide +kernel) (by decide +kernel) (Caps.cons (by fail "has") (by decide +kernel) (by decide +kernel) (Caps.cons (by fail "has") (by decide +kernel) (by decide +kernel) Caps.nil)))) (by intro x; with_unfolding_all rfl) (sto_fun fe (by decide +kernel)) noOwn ?_ ?_ ?_) ?_
  · intro X env' ce
    refine Ev.cast (d := .int (toI (rndF x ((2 ^ (n + 1) : Nat) : Int)) - (if ((0 : Int) == ((t i : Nat) : Int)) = true then (2 : Int) ^ ((i : Nat) : Int).toNat else 0))) ?_ (by rw [← back_eq t w i 0 ht3 (by decide) _ rfl, r0.2]; rfl)
    unfold rndF
    fail "evs"
    exact r0.1
  · intro X env' ce
    refine Ev.cast (d := .int (toI (rndF y ((2 ^ (n + 1) : Nat) : Int)) - (if ((1 : Int) == ((t i : Nat) : Int)) = true then (2 : Int) ^ ((i : Nat) : Int).toNat else 0))) ?_ (by rw [← back_eq t w i 1 ht3 (by decide) _ rfl, r1.2]; rfl)
    unfold rndF
    fail "evs"
    exact r1.1
  · intro X env' ce
    refine Ev.cast (d := .int (toI (rndF z ((2 ^ (n + 1) : Nat) : Int)) - (if ((2 : Int) == ((t i : Nat) : Int)) = true then (2 : Int) ^ ((i : Nat) : Int).toNat else 0))) ?_ (by rw [← back_eq t w i 2 ht3 (by decide) _ rfl, r2.2]; rfl)
    unfold rndF
    fail "evs"
    exact r2.1
  refine Exs.cons (Ex.assign (d := .list (nums ((tow t n).drop (i)))) (fun X => Ev.cast (Ev.binop (d1 := .list [.int ((t i : Nat) : Int)]) (d2 := .list (nums ((tow t n).drop (i + 1)))) (by fail "evs") (by fail "evs") (OpOk.addLL (by rw [nlen, List.length_drop, tow_len]; simp only [List.length_cons, List.length_nil]; omega))) (by rw [tow_drop hi]; rfl)) (sto_fun fe (by decide +kernel)) noOwn (by with_unfolding_all rfl)) ?_
  refine Exs.less Exs.nil ?_
  exact (Fewer.cons (by first | fail "has" | (unfold tri; fail "has")) (Fewer.cons (by first | fail "has" | (unfold tri; fail "has")) (Fewer.cons (by first | fail "has" | (unfold tri; fail "has")) Fewer.nil)))
theorem range_down9 : ∀ n : Nat, n < 10 → Builtin.Range.small ((n : Int) - 1) (-1) (-1) = true ∧ Builtin.Range.rangeSize ((n : Int) - 1) (-1) (-1) = n := by decide +kernel
theorem range_down (n : Nat) (hn : n ≤ 9) : Builtin.Range.small ((n : Int) - 1) (-1) (-1) = true ∧ Builtin.Range.rangeSize ((n : Int) - 1) (-1) (-1) = n := range_down9 n (Nat.lt_succ_of_le hn)
set_option maxHeartbeats 4000000 in
theorem ctr_hread (h0 : Ctx C P) {t : Nat → Nat} {n : Nat} {w : Int} (ht : Tw t n w) : Ctr C 4 (Str.ofString "_law_read") [tri (hpaint t w n), .int n, .int ((2 ^ (n + 1) : Nat) : Int)] (.tup [.list (nums (tow t n)), .list [.int w, .int w, .int w]]) := by
  have hn9 := ht.n9
  obtain ⟨rg1, rg2⟩ := range_down n hn9
  refine Ctr.intro' (d := recAt P 14) (xs := [Str.ofString "parts", Str.ofString "discs", Str.ofString "unit"]) [(Str.ofString "parts", tri (hpaint t w n)), (Str.ofString "discs", .int n), (Str.ofString "unit", .int ((2 ^ (n + 1) : Nat) : Int))] h0.fn 8 (by kernel_rfl) (by kernel_rfl) ?_ (by decide +kernel) rfl (by decide +kernel) (by kernel_rfl) (by kernel_rfl) (by kernel_rfl) rfl ?_
  · rintro pm code doc (_ | ⟨parts0, _ | ⟨discs0, _ | ⟨unit0, _ | _⟩⟩⟩) hl <;> first | rfl | cases hl
  · intro env fe
    change ExsR _ _ _ _ _ (_ :: _) _
    refine ExsR.cons (Ex.assign (d := .list (nums ((tow t n).drop (n - 0)))) (fun X => Ev.cast (by fail "evs") (by rw [Nat.sub_zero, List.drop_of_length_le (by rw [tow_len]; exact Nat.le_refl _)]; rfl)) (sto_fun fe (by decide +kernel)) noOwn (by with_unfolding_all rfl)) ?_
    refine ExsR.cons (Ex.assign (d := tri (hpaint t w (n - 0))) (fun X => Ev.cast (by fail "evs") (by rw [Nat.sub_zero])) (sto_fun fe (by decide +kernel)) noOwn (by with_unfolding_all rfl)) ?_
    refine ExsR.cons (Ex.forR (n := n) (a := (n : Int) - 1) (c := -1) (fun i => [(Str.ofString "pegs", .list (nums ((tow t n).drop (n - i)))), (Str.ofString "rest", tri (hpaint t w (n - i))), (Str.ofString "unit", .int ((2 ^ (n + 1) : Nat) : Int))]) (fun _ => [])
      (fun X => ItR.range3 (b := -1) h0.range (gk_fun fe (by decide +kernel)) (by fail "evs") (by fail "evs") (by fail "evs") (by decide) (by decide) rg1 rg2 (by decide +kernel) (by with_unfolding_all rfl) (by with_unfolding_all rfl) (by with_unfolding_all rfl) (by with_unfolding_all rfl)) (Fewer.cons (by fail "has") (Fewer.cons (by fail "has") (Fewer.cons (by fail "has") Fewer.nil))) rfl (sto_fun fe (by decide +kernel)) (fun _ => noOwn) ?_ (by intro y; with_unfolding_all rfl)) ?_
    · intro i hi
      have e : (n : Int) - 1 + (i : Int) * (-1) = ((n - 1 - i : Nat) : Int) := by omega
      rw [e]
      have e1 : n - i = (n - 1 - i) + 1 := by omega
      have e2 : n - (i + 1) = n - 1 - i := by omega
      rw [e1, e2]
      exact hread_body h0 ht fe (by omega)
    · refine ExsR.ret (ExR.ret fun X => Ev.cast (by fail "evs") ?_)
      rw [Nat.sub_self]; rfl
local macro_rules | `(tactic| fail "sub") => `(tactic| ((with_reducible show (_ : Option D) = some _); first | exact tow_at (by omega) | rfl))
theorem IsT.cast {k : Nat} {env : Env} {X : List Addr} {l : Vals} {e : PySem.Expr} {b b' : Bool} (h : IsT C k env X l e b) (hb : b = b') : IsT C k env X l e b' := hb ▸ h
def thd (g p : Nat) : Nat := 3 - g - p
def way (t : Nat → Nat) : Nat → Nat → Int
  | 0, _ => 0
  | k + 1, g => if t k = g then way t k g else 2 ^ k + way t k (thd g (t k))
def thr (t : Nat → Nat) (n g : Nat) : Nat → Nat
  | 0 => g
  | i + 1 => if t (n - 1 - i) = thr t n g i then thr t n g i else thd (thr t n g i) (t (n - 1 - i))
theorem thd_lt {g p : Nat} (hg : g < 3) (hp : p < 3) (h : p ≠ g) : thd g p < 3 ∧ ((thd g p : Nat) : Int) = 3 - (g : Int) - (p : Int) := by unfold thd; omega
theorem thr_lt {t : Nat → Nat} {n g : Nat} (ht : ∀ k, t k < 3) (hg : g < 3) : ∀ i, thr t n g i < 3
  | 0 => hg
  | i + 1 => by
    have ih := thr_lt ht hg (n := n) i
    unfold thr
    split
    · exact ih
    · rename_i h; exact (thd_lt ih (ht _) h).1
def mvs (t : Nat → Nat) (n g i : Nat) : Int := way t n g - way t (n - i) (thr t n g i)
set_option maxHeartbeats 4000000 in
theorem way_body (h0 : Ctx C P) {t : Nat → Nat} {n g : Nat} (hn : n ≤ 9) (ht : ∀ k, t k < 3) (hg : g < 3) {env : Env} (fe : FEnv env (recAt P 16).scope) {i : Nat} (hi : i < n) :
    Exs C 0 env [(Str.ofString "k", .int ((n - 1 - i : Nat) : Int)), (Str.ofString "moves", .int (mvs t n g i)), (Str.ofString "there", .int ((thr t n g i : Nat) : Int)), (Str.ofString "pegs", .list (nums (tow t n)))] [] (forBody ((recAt P 16).body.getD 2 (.Pass ⟨0, 0, 0, 0⟩)))
      [(Str.ofString "moves", .int (mvs t n g (i + 1))), (Str.ofString "there", .int ((thr t n g (i + 1) : Nat) : Int)), (Str.ofString "pegs", .list (nums (tow t n)))] [] := by
  obtain ⟨k, hk⟩ : ∃ k, k = n - 1 - i := ⟨_, rfl⟩
  have hkn : k < n := by omega
  have e1 : n - i = k + 1 := by omega
  have e2 : n - (i + 1) = k := by omega
  have ih := thr_lt ht hg (n := n) i
  have tk := ht k
  have d0 : mvs t n g i = way t n g - way t (k + 1) (thr t n g i) := by unfold mvs; rw [e1]
  have d1 : mvs t n g (i + 1) = way t n g - way t k (thr t n g (i + 1)) := by unfold mvs; rw [e2]
  have d2 : thr t n g (i + 1) = if t k = thr t n g i then thr t n g i else thd (thr t n g i) (t k) := by rw [hk]; rfl
  rw [← hk, d0, d1, d2]
  generalize thr t n g i = h at *
  change Exs _ _ _ _ _ (_ :: _) _ _
  by_cases c : t k = h
  · rw [if_pos c]
    refine Exs.cons (Ex.ifF' (c := (((t k : Nat) : Int) != (h : Int))) (fun X => by fail "evs") (by rw [c]; simp) Exs.nil) ?_
    refine Exs.less Exs.nil ?_
    have : way t (k + 1) h = way t k h := by show (if t k = h then _ else _) = _; rw [if_pos c]
    rw [this]
    exact (Fewer.cons (by fail "has") (Fewer.cons (by fail "has") (Fewer.cons (by fail "has") Fewer.nil)))
  · rw [if_neg c]
    obtain ⟨q1, q2⟩ := thd_lt ih tk c
    refine Exs.cons (v' := [(Str.ofString "moves", .int (way t n g - way t (k + 1) h + 2 ^ k)), (Str.ofString "there", .int ((thd h (t k) : Nat) : Int)), (Str.ofString "pegs", .list (nums (tow t n)))]) (o' := []) (Ex.ifT' (c := (((t k : Nat) : Int) != (h : Int))) (fun X => by fail "evs") (by simp; omega) ?_) ?_
    · change Exs _ _ _ _ _ (_ :: _) _ _
      refine Exs.cons (Ex.assign (d := .int (way t n g - way t (k + 1) h + 2 ^ k)) (fun X => Ev.cast (by fail "evs") (by rw [Int.toNat_natCast])) (sto_fun fe (by decide +kernel)) noOwn (by with_unfolding_all rfl)) ?_
      refine Exs.cons (Ex.assign (d := .int ((thd h (t k) : Nat) : Int)) (fun X => Ev.cast (by fail "evs") (by rw [q2])) (sto_fun fe (by decide +kernel)) noOwn (by with_unfolding_all rfl)) ?_
      refine Exs.less Exs.nil ?_
      exact (Fewer.cons (by fail "has") (Fewer.cons (by fail "has") (Fewer.cons (by fail "has") Fewer.nil)))
    refine Exs.less Exs.nil ?_
    have : way t (k + 1) h = 2 ^ k + way t k (thd h (t k)) := by show (if t k = h then _ else _) = _; rw [if_neg c]
    rw [show way t n g - way t k (thd h (t k)) = way t n g - way t (k + 1) h + 2 ^ k by rw [this]; omega]
    exact (Fewer.cons (by fail "has") (Fewer.cons (by fail "has") (Fewer.cons (by fail "has") Fewer.nil)))
set_option maxHeartbeats 4000000 in
theorem ctr_way (h0 : Ctx C P) {t : Nat → Nat} {n g : Nat} (hn : n ≤ 9) (ht : ∀ k, t k < 3) (hg : g < 3) : Ctr C 1 (Str.ofString "_law_way") [.list (nums (tow t n)), .int g] (.int (way t n g)) := by
  have hlen : (nums (tow t n)).length = n := by rw [nlen, tow_len]
  obtain ⟨rg1, rg2⟩ := range_down n hn
  refine Ctr.intro' (d := recAt P 16) (xs := [Str.ofString "pegs", Str.ofString "goal"]) [(Str.ofString "pegs", .list (nums (tow t n))), (Str.ofString "goal", .int g)] h0.fn 10 (by kernel_rfl) (by kernel_rfl) ?_ (by decide +kernel) rfl (by decide +kernel) (by kernel_rfl) (by kernel_rfl) (by kernel_rfl) rfl ?_
  · rintro pm code doc (_ | ⟨pegs0, _ | ⟨goal0, _ | _⟩⟩) hl <;> first | rfl | cases hl
  · intro env fe
    change ExsR _ _ _ _ _ (_ :: _) _
    refine ExsR.cons (Ex.assign (d := .int (mvs t n g 0)) (fun X => Ev.cast (by fail "evs") (by unfold mvs thr; rw [Nat.sub_zero]; simp)) (sto_fun fe (by decide +kernel)) noOwn (by with_unfolding_all rfl)) ?_
    refine ExsR.cons (Ex.assign (d := .int ((thr t n g 0 : Nat) : Int)) (fun X => Ev.cast (by fail "evs") (by rfl)) (sto_fun fe (by decide +kernel)) noOwn (by with_unfolding_all rfl)) ?_
    refine ExsR.cons (Ex.forR (n := n) (a := (n : Int) - 1) (c := -1) (fun i => [(Str.ofString "moves", .int (mvs t n g i)), (Str.ofString "there", .int ((thr t n g i : Nat) : Int)), (Str.ofString "pegs", .list (nums (tow t n)))]) (fun _ => [])
      (fun X => ItR.range3 (b := -1) h0.range (gk_fun fe (by decide +kernel)) (Ev.cast (by fail "evs" <;> (rw [hlen]; omega)) (by rw [hlen])) (by fail "evs") (by fail "evs") (by decide) (by decide) rg1 rg2 (by decide +kernel) (by with_unfolding_all rfl) (by with_unfolding_all rfl) (by with_unfolding_all rfl) (by with_unfolding_all rfl)) (Fewer.cons (by fail "has") (Fewer.cons (by fail "has") (Fewer.cons (by fail "has") Fewer.nil))) rfl (sto_fun fe (by decide +kernel)) (fun _ => noOwn) ?_ (by intro y; with_unfolding_all rfl)) ?_
    · intro i hi
      have e : (n : Int) - 1 + (i : Int) * (-1) = ((n - 1 - i : Nat) : Int) := by omega
      rw [e]
      exact way_body h0 hn ht hg fe hi
    · refine ExsR.ret (ExR.ret fun X => Ev.cast (by fail "evs") ?_)
      unfold mvs
      rw [Nat.sub_self]
      show D.int (_ - 0) = _
      rw [Int.sub_zero]
local macro_rules | `(tactic| fail "sub") => `(tactic| ((with_reducible show (_ : Option D) = some _); first | exact tow_at (by omega) | rfl))
theorem IsT.and2 {k : Nat} {env : Env} {X : List Addr} {l : Vals} {a b : PySem.Expr} {pos : Pos} {c1 c2 : Bool} (h1 : IsT C k env X l a c1) (h2 : IsT C k env X l b c2) : IsT C k env X l (.BoolOp .And [a, b] pos) (c1 && c2) := by
  refine IsT.boolop ?_
  cases c1
  · exact AllT.andF h1
  · cases c2
    · exact AllT.andT h1 (AllT.andF h2)
    · exact AllT.andT h1 (AllT.andT h2 AllT.andNil)
def upd (t : Nat → Nat) (k p : Nat) : Nat → Nat := fun i => if i = k then p else t i
def okM (t : Nat → Nat) (n k p : Nat) : Bool := !((tow t n).take k).contains ((t k : Nat) : Int) && !((tow t n).take (k + 1)).contains ((p : Nat) : Int)
def mrow (t : Nat → Nat) (n k p : Nat) : List (List Int) := if okM t n k p = true then [tow (upd t k p) n] else []
def mIn (t : Nat → Nat) (n k : Nat) : Nat → List (List Int)
  | 0 => []
  | j + 1 => mIn t n k j ++ mrow t n k j
def mOut (t : Nat → Nat) (n : Nat) : Nat → List (List Int)
  | 0 => []
  | k + 1 => mOut t n k ++ mIn t n k 3
theorem nums_take' (ns : List Int) (k : Nat) : (nums ns).take k = nums (ns.take k) := by unfold nums; rw [List.map_take]
theorem nums_drop' (ns : List Int) (k : Nat) : (nums ns).drop k = nums (ns.drop k) := by unfold nums; rw [List.map_drop]
theorem nums_app (a b : List Int) : nums a ++ nums b = nums (a ++ b) := by unfold nums; rw [List.map_append]
theorem rows_app (a b : List (List Int)) : rows a ++ rows b = rows (a ++ b) := by unfold rows; rw [List.map_append]
theorem tow_upd {t : Nat → Nat} {n k p : Nat} (h : k < n) : (tow t n).take k ++ [((p : Nat) : Int)] ++ (tow t n).drop (k + 1) = tow (upd t k p) n := by
  have hl := tow_len t n
  refine List.ext_getElem ?_ fun i h1 h2 => ?_
  · simp only [List.length_append, List.length_take, List.length_drop, tow_len, List.length_cons, List.length_nil]; omega
  · rw [tow_len] at h2
    have e2 : (tow (upd t k p) n)[i]'(by rw [tow_len]; exact h2) = ((upd t k p i : Nat) : Int) := by simp [tow]
    rw [e2]
    unfold upd
    rcases Nat.lt_trichotomy i k with q | q | q
    · rw [if_neg (by omega), List.getElem_append_left (by simp [tow_len]; omega), List.getElem_append_left (by simp [tow_len]; omega)]
      simp [tow]
    · subst q
      rw [if_pos rfl, List.getElem_append_left (by simp [tow_len]; omega), List.getElem_append_right (by simp [tow_len]; omega)]
      simp
    · rw [if_neg (by omega), List.getElem_append_right (by simp [tow_len]; omega)]
      simp only [List.getElem_drop, List.length_append, List.length_take, tow_len, List.length_cons, List.length_nil]
      have : k + 1 + (i - (min k n + (0 + 1))) = i := by omega
      simp only [this]
      simp [tow]
theorem mIn_len (t : Nat → Nat) (n k : Nat) : ∀ j, (mIn t n k j).length ≤ j
  | 0 => Nat.le_refl _
  | j + 1 => by
    have := mIn_len t n k j
    unfold mIn mrow
    rw [List.length_append]
    split <;> simp <;> omega
theorem mOut_len (t : Nat → Nat) (n : Nat) : ∀ k, (mOut t n k).length ≤ 3 * k
  | 0 => Nat.le_refl _
  | k + 1 => by
    have := mOut_len t n k
    have := mIn_len t n k 3
    unfold mOut
    rw [List.length_append]; omega
def own1 (x : Str) (l : List (List Int)) : Own := [(x, rows l)]
set_option maxHeartbeats 4000000 in
theorem moves_in (h0 : Ctx C P) {t : Nat → Nat} {n : Nat} (hn : n ≤ 9) {env : Env} (fe : FEnv env (recAt P 15).scope) {k j : Nat} (hk : k < n) (hj : j < 3) {acc : List (List Int)} (hacc : acc.length ≤ 100) :
    Exs C 0 env [(Str.ofString "peg", .int ((j : Nat) : Int)), (Str.ofString "k", .int ((k : Nat) : Int)), (Str.ofString "pegs", .list (nums (tow t n)))] (own1 (Str.ofString "made") acc) (forBody ((forBody ((recAt P 15).body.getD 1 (.Pass ⟨0, 0, 0, 0⟩))).getD 0 (.Pass ⟨0, 0, 0, 0⟩)))
      [(Str.ofString "k", .int ((k : Nat) : Int)), (Str.ofString "pegs", .list (nums (tow t n)))] (own1 (Str.ofString "made") (acc ++ mrow t n k j)) := by
  have hlen : (nums (tow t n)).length = n := by rw [nlen, tow_len]
  change Exs _ _ _ _ _ (_ :: _) _ _
  unfold mrow
  cases c : okM t n k j with
  | false =>
    refine Exs.cons (Ex.ifF' (c := okM t n k j) (fun X => IsT.cast (IsT.and2 (IsT.cmp (d1 := .int ((t k : Nat) : Int)) (d2 := .list (nums ((tow t n).take k))) (by fail "evs") (Ev.cast (Ev.sliceTo (n := k) (by fail "evs") (by fail "evs") (by rw [hlen]; omega)) (by rw [nums_take'])) CmpOk.notInI (by with_unfolding_all rfl))     (IsT.cmp (d1 := .int ((j : Nat) : Int)) (d2 := .list (nums ((tow t n).take (k + 1)))) (by fail "evs") (Ev.cast (Ev.sliceTo (n := k + 1) (by fail "evs") (Ev.cast (by fail "evs") (by push_cast; rfl)) (by rw [hlen]; omega)) (by rw [nums_take'])) CmpOk.notInI (by with_unfolding_all rfl))) rfl) c Exs.nil) ?_
    simp only [Bool.false_eq_true, if_false, List.append_nil]
    exact Exs.less Exs.nil (Fewer.cons (by fail "has") (Fewer.cons (by fail "has") Fewer.nil))
  | true =>
    refine Exs.cons (Ex.ifT' (c := okM t n k j) (fun X => IsT.cast (IsT.and2 (IsT.cmp (d1 := .int ((t k : Nat) : Int)) (d2 := .list (nums ((tow t n).take k))) (by fail "evs") (Ev.cast (Ev.sliceTo (n := k) (by fail "evs") (by fail "evs") (by rw [hlen]; omega)) (by rw [nums_take'])) CmpOk.notInI (by with_unfolding_all rfl))     (IsT.cmp (d1 := .int ((j : Nat) : Int)) (d2 := .list (nums ((tow t n).take (k + 1)))) (by fail "evs") (Ev.cast (Ev.sliceTo (n := k + 1) (by fail "evs") (Ev.cast (by fail "evs") (by push_cast; rfl)) (by rw [hlen]; omega)) (by rw [nums_take'])) CmpOk.notInI (by with_unfolding_all rfl))) rfl) c (Exs.cons (Ex.append (d := .list (nums (tow (upd t k j) n))) Upd.head (fun X => ?_) (by intro q hq; cases hq with | head => (show (rows acc).length ≤ 1000); unfold rows; rw [List.length_map]; omega | tail _ h => cases h) (by decide) (by with_unfolding_all rfl) (by decide +kernel)) Exs.nil)) ?_
    · refine Ev.cast (Ev.binop (d1 := .list (nums ((tow t n).take k ++ [((j : Nat) : Int)]))) (d2 := .list (nums ((tow t n).drop (k + 1)))) (Ev.cast (Ev.binop (d1 := .list (nums ((tow t n).take k))) (d2 := .list [.int ((j : Nat) : Int)]) (Ev.cast (Ev.sliceTo (n := k) (by fail "evs") (by fail "evs") (by rw [hlen]; omega)) (by rw [nums_take'])) (by fail "evs") (OpOk.addLL ?_)) ?_) (Ev.cast (Ev.sliceFrom (n := k + 1) (by fail "evs") (Ev.cast (by fail "evs") (by push_cast; rfl)) (by rw [hlen]; omega)) (by rw [nums_drop'])) (OpOk.addLL ?_)) ?_
      · rw [nlen, List.length_take, tow_len]; simp only [List.length_cons, List.length_nil]; omega
      · rw [show [D.int ((j : Nat) : Int)] = nums [((j : Nat) : Int)] from rfl, nums_app]
      · rw [nlen, nlen, List.length_append, List.length_take, List.length_drop, tow_len]; simp only [List.length_cons, List.length_nil]; omega
      · rw [nums_app, tow_upd hk]
    · rw [if_pos rfl]
      have e : rows acc ++ [.list (nums (tow (upd t k j) n))] = rows (acc ++ [tow (upd t k j) n]) := by rw [← rows_app]; rfl
      rw [e]
      exact Exs.less Exs.nil (Fewer.cons (by fail "has") (Fewer.cons (by fail "has") Fewer.nil))
set_option maxHeartbeats 4000000 in
theorem ctr_moves (h0 : Ctx C P) {t : Nat → Nat} {n : Nat} (hn : n ≤ 9) : Ctr C 1 (Str.ofString "_law_moves") [.list (nums (tow t n))] (.list (rows (mOut t n n))) := by
  have hlen : (nums (tow t n)).length = n := by rw [nlen, tow_len]
  refine Ctr.intro' (d := recAt P 15) (xs := [Str.ofString "pegs"]) [(Str.ofString "pegs", .list (nums (tow t n)))] h0.fn 9 (by kernel_rfl) (by kernel_rfl) ?_ (by decide +kernel) rfl (by decide +kernel) (by kernel_rfl) (by kernel_rfl) (by kernel_rfl) rfl ?_
  · rintro pm code doc (_ | ⟨pegs0, _ | _⟩) hl <;> first | rfl | cases hl
  · intro env fe
    change ExsR _ _ _ _ _ (_ :: _) _
    refine ExsR.cons (Ex.own (x := Str.ofString "made") (gk_fun fe (by decide +kernel)) (by intro p hp; cases hp) (by intro d hd; cases hd with | tail _ h => cases h) (by with_unfolding_all rfl)) ?_
    refine ExsR.cons (Ex.forR (n := n) (fun _ => [(Str.ofString "pegs", .list (nums (tow t n)))]) (fun i => own1 (Str.ofString "made") (mOut t n i)) (fun X => ItR.range1 h0.range (gk_fun fe (by decide +kernel)) (Ev.cast (by fail "evs" <;> (rw [hlen]; omega)) (by rw [hlen])) (by omega) (by decide +kernel) (by with_unfolding_all rfl)) (Fewer.cons (by fail "has") Fewer.nil) rfl (sto_fun fe (by decide +kernel)) (by intro i p hp; cases hp with | head => ((show Str.ofString "made" ≠ Str.ofString "k"); decide +kernel) | tail _ h => cases h) ?_ (by intro y; with_unfolding_all rfl)) ?_
    · intro i hi
      have e : (0 : Int) + (i : Int) * 1 = (i : Int) := by omega
      rw [e]
      change Exs _ _ _ _ _ (_ :: _) _ _
      have hm := mOut_len t n i
      refine Exs.cons (Ex.forR (n := 3) (fun _ => [(Str.ofString "k", .int ((i : Nat) : Int)), (Str.ofString "pegs", .list (nums (tow t n)))]) (fun j => own1 (Str.ofString "made") (mOut t n i ++ mIn t n i j)) (fun X => ItR.range1 h0.range (gk_fun fe (by decide +kernel)) (Ev.cast (d := .int 3) Ev.int rfl) (by decide) (by decide +kernel) (by with_unfolding_all rfl)) (Fewer.cons (by fail "has") (Fewer.cons (by fail "has") Fewer.nil)) (by unfold mIn; rw [List.append_nil]) (sto_fun fe (by decide +kernel)) (by intro i p hp; cases hp with | head => ((show Str.ofString "made" ≠ Str.ofString "peg"); decide +kernel) | tail _ h => cases h) ?_ (by intro y; with_unfolding_all rfl)) ?_
      · intro j hj
        have e : (0 : Int) + (j : Int) * 1 = (j : Int) := by omega
        rw [e]
        have := mIn_len t n i j
        have e3 : mOut t n i ++ mIn t n i (j + 1) = (mOut t n i ++ mIn t n i j) ++ mrow t n i j := by rw [List.append_assoc]; rfl
        rw [e3]
        exact moves_in h0 hn fe hi hj (by rw [List.length_append]; omega)
      · exact Exs.less Exs.nil (Fewer.cons (by fail "has") Fewer.nil)
    · refine ExsR.freeze ?_
      refine ExsR.ret (ExR.ret fun X => ?_)
      fail "evs"
theorem hpaint_shift (t : Nat → Nat) (w : Int) : ∀ n a, hpaint t w n a = w + hpaint t 0 n a
  | 0, a => by unfold hpaint; omega
  | n + 1, a => by
    show hpaint t w n (mir (t n) a) + _ = w + (hpaint t 0 n (mir (t n) a) + _)
    rw [hpaint_shift t w n]; omega
theorem hpaint_congr {t s : Nat → Nat} {w : Int} : ∀ {n a : Nat}, (∀ k, k < n → t k = s k) → hpaint t w n a = hpaint s w n a
  | 0, a, _ => rfl
  | n + 1, a, h => by
    show hpaint t w n (mir (t n) a) + _ = hpaint s w n (mir (s n) a) + _
    rw [h n (Nat.lt_succ_self n), hpaint_congr fun k hk => h k (Nat.lt_succ_of_lt hk)]
theorem mir_inj {g a b : Nat} (ha : a < 3) (hb : b < 3) (h : mir g a = mir g b) : a = b := by rw [← mir_mir (g := g) ha, h, mir_mir hb]
/-- the parts of the lamp a, the lamps of the bits being told by f -/
def dsum (f : Nat → Nat) : Nat → Nat → Int
  | 0, _ => 0
  | n + 1, a => dsum f n a + (if f n = a then 2 ^ n else 0)
theorem dsum_bd (f : Nat → Nat) : ∀ n a, 0 ≤ dsum f n a ∧ dsum f n a ≤ 2 ^ n - 1
  | 0, a => by unfold dsum; rw [Int.pow_zero]; omega
  | n + 1, a => by
    have ih := dsum_bd f n a
    have := p2 n
    unfold dsum
    rw [Int.pow_succ]
    split <;> omega
theorem dsum_low (f : Nat → Nat) : ∀ n a, dsum f (n + 1) a = (if f 0 = a then 1 else 0) + 2 * dsum (fun i => f (i + 1)) n a
  | 0, a => by unfold dsum dsum; rw [Int.pow_zero]; omega
  | n + 1, a => by
    have ih := dsum_low f n a
    have e1 : dsum f (n + 1 + 1) a = dsum f (n + 1) a + (if f (n + 1) = a then 2 ^ (n + 1) else 0) := rfl
    have e2 : dsum (fun i => f (i + 1)) (n + 1) a = dsum (fun i => f (i + 1)) n a + (if f (n + 1) = a then 2 ^ n else 0) := rfl
    rw [e1, e2, ih, Int.pow_succ]
    split <;> split <;> omega
/-- read from the greatest disc on -/
def qf (f : Nat → Nat) (n : Nat) : Nat → Nat → Nat
  | 0, a => a
  | j + 1, a => mir (qf f n j (f (n - 1 - j))) (qf f n j a)
def twr (f : Nat → Nat) (n k : Nat) : Nat := qf f n (n - 1 - k) (f k)
theorem qf_lt {f : Nat → Nat} {n a : Nat} (ha : a < 3) : ∀ j, qf f n j a < 3
  | 0 => ha
  | j + 1 => mir_lt _ _
theorem qf_inj {f : Nat → Nat} {n a b : Nat} (ha : a < 3) (hb : b < 3) : ∀ j, qf f n j a = qf f n j b → a = b
  | 0, h => h
  | j + 1, h => qf_inj ha hb j (mir_inj (qf_lt ha j) (qf_lt hb j) h)
theorem qf_congr {f g : Nat → Nat} {n a : Nat} : ∀ {j}, (∀ i, i < j → g (n - 1 - i) = f (n - 1 - i)) → qf g n j a = qf f n j a
  | 0, _ => rfl
  | j + 1, h => by
    show mir (qf g n j (g (n - 1 - j))) (qf g n j a) = mir (qf f n j (f (n - 1 - j))) (qf f n j a)
    have hh : ∀ i, i < j → g (n - 1 - i) = f (n - 1 - i) := fun i hi => h i (Nat.lt_succ_of_lt hi)
    rw [qf_congr hh, qf_congr hh, h j (Nat.lt_succ_self j)]
theorem twr_lt {f : Nat → Nat} (hf : ∀ i, f i < 3) (n k : Nat) : twr f n k < 3 := qf_lt (hf k) _
theorem twr_paint_at {f : Nat → Nat} (hf : ∀ i, f i < 3) (w : Int) (n : Nat) : ∀ m, m ≤ n → ∀ a, a < 3 → hpaint (twr f n) w m (qf f n (n - m) a) = w + dsum f m a
  | 0, _, a, _ => by unfold hpaint dsum; omega
  | m + 1, hm, a, ha => by
    have ih := twr_paint_at hf w n m (by omega) a ha
    obtain ⟨j, hj⟩ : ∃ j, j = n - (m + 1) := ⟨_, rfl⟩
    have e1 : n - m = j + 1 := by omega
    have e2 : n - 1 - j = m := by omega
    have e3 : n - 1 - m = j := by omega
    have tm : twr f n m = qf f n j (f m) := by unfold twr; rw [e3]
    rw [← hj]
    show hpaint (twr f n) w m (mir (twr f n m) (qf f n j a)) + (if qf f n j a = twr f n m then 2 ^ m else 0) = w + (dsum f m a + (if f m = a then 2 ^ m else 0))
    rw [e1] at ih
    have q1 : qf f n (j + 1) a = mir (twr f n m) (qf f n j a) := by rw [tm]; show mir (qf f n j (f (n - 1 - j))) _ = _; rw [e2]
    rw [← q1, ih, tm]
    by_cases c : f m = a
    · rw [if_pos (by rw [c]), if_pos c]; omega
    · rw [if_neg (fun h => c (qf_inj ha (hf m) j h).symm), if_neg c]; omega
theorem twr_paint {f : Nat → Nat} (hf : ∀ i, f i < 3) (w : Int) (n : Nat) {a : Nat} (ha : a < 3) : hpaint (twr f n) w n a = w + dsum f n a := by
  have := twr_paint_at hf w n n (Nat.le_refl _) a ha
  rwa [Nat.sub_self] at this
def qt (t : Nat → Nat) (n : Nat) : Nat → Nat → Nat
  | 0, a => a
  | j + 1, a => mir (t (n - 1 - j)) (qt t n j a)
def qi (t : Nat → Nat) (n : Nat) : Nat → Nat → Nat
  | 0, a => a
  | j + 1, a => qi t n j (mir (t (n - 1 - j)) a)
theorem qi_lt {t : Nat → Nat} {n : Nat} : ∀ {j a : Nat}, a < 3 → qi t n j a < 3
  | 0, _, h => h
  | j + 1, a, _ => by
    show qi t n j (mir (t (n - 1 - j)) a) < 3
    exact qi_lt (mir_lt _ _)
theorem qt_qi {t : Nat → Nat} {n : Nat} : ∀ {j a : Nat}, a < 3 → qt t n j (qi t n j a) = a
  | 0, _, _ => rfl
  | j + 1, a, h => by
    show mir _ (qt t n j (qi t n j (mir (t (n - 1 - j)) a))) = a
    rw [qt_qi (mir_lt _ _), mir_mir h]
def fpos (t : Nat → Nat) (n k : Nat) : Nat := qi t n (n - 1 - k) (t k)
theorem fpos_lt {t : Nat → Nat} (ht : ∀ k, t k < 3) (n k : Nat) : fpos t n k < 3 := qi_lt (ht k)
theorem qf_fpos {t : Nat → Nat} (ht : ∀ k, t k < 3) {n : Nat} : ∀ {j a : Nat}, j ≤ n → qf (fpos t n) n j a = qt t n j a
  | 0, _, _ => rfl
  | j + 1, a, h => by
    show mir (qf (fpos t n) n j (fpos t n (n - 1 - j))) (qf (fpos t n) n j a) = mir (t (n - 1 - j)) (qt t n j a)
    rw [qf_fpos ht (by omega), qf_fpos ht (by omega)]
    unfold fpos
    rw [show n - 1 - (n - 1 - j) = j by omega, qt_qi (ht _)]
theorem twr_fpos {t : Nat → Nat} (ht : ∀ k, t k < 3) {n k : Nat} (h : k < n) : twr (fpos t n) n k = t k := by
  unfold twr
  rw [qf_fpos ht (by omega)]
  unfold fpos
  rw [qt_qi (ht k)]
theorem own_dsum {t : Nat → Nat} (ht : ∀ k, t k < 3) (w : Int) (n : Nat) {a : Nat} (ha : a < 3) : hpaint t w n a = w + dsum (fpos t n) n a := by
  rw [← twr_paint (fpos_lt ht n) w n ha]
  exact hpaint_congr fun k hk => (twr_fpos ht hk).symm

/-- the exclusive or of three -/
def x3 (x y z : Int) : Int := bx (bx x y) z
theorem bx_dm (x y : Int) : bx x y / 2 = bx (x / 2) (y / 2) ∧ bx x y % 2 = (x + y) % 2 := by
  have e := bx_halves x y
  generalize bx (x / 2) (y / 2) = B at *
  by_cases c : x % 2 = y % 2
  · rw [if_pos c] at e; omega
  · rw [if_neg c] at e; omega
theorem x3_halves (x y z : Int) : x3 x y z = 2 * x3 (x / 2) (y / 2) (z / 2) + (x + y + z) % 2 := by
  unfold x3
  obtain ⟨a1, a2⟩ := bx_dm x y
  obtain ⟨b1, b2⟩ := bx_dm (bx x y) z
  rw [a1] at b1
  generalize bx (bx (x / 2) (y / 2)) (z / 2) = D at *
  generalize bx (bx x y) z = E at *
  generalize bx x y = F at *
  omega
theorem x3_le : ∀ (k : Nat) (x y z : Int), 0 ≤ x → 0 ≤ y → 0 ≤ z → x < 2 ^ k → y < 2 ^ k → z < 2 ^ k → 0 ≤ x3 x y z ∧ x3 x y z ≤ x + y + z
  | 0, x, y, z, a, b, c, d, e, f => by
    have e1 : x = 0 := by omega
    have e2 : y = 0 := by omega
    have e3 : z = 0 := by omega
    subst e1 e2 e3; decide +kernel
  | k + 1, x, y, z, a, b, c, d, e, f => by
    rw [Int.pow_succ] at d e f
    have ih := x3_le k (x / 2) (y / 2) (z / 2) (by omega) (by omega) (by omega) (by omega) (by omega) (by omega)
    rw [x3_halves]; omega
structure Tri3 (x y z : Nat) : Prop where
  xy : x ≠ y
  xz : x ≠ z
  yz : y ≠ z
theorem dsum_sum {f : Nat → Nat} {x y z : Nat} (h : Tri3 x y z) (hf : ∀ i, f i = x ∨ f i = y ∨ f i = z) : ∀ n, dsum f n x + dsum f n y + dsum f n z = 2 ^ n - 1
  | 0 => by unfold dsum; decide
  | n + 1 => by
    have ih := dsum_sum h hf n
    have := h.xy; have := h.xz; have := h.yz
    unfold dsum
    rw [Int.pow_succ]
    rcases hf n with e | e | e <;> rw [e] <;> simp <;> split <;> first | omega | (split <;> omega)
theorem dsum_x3 {x y z : Nat} (h : Tri3 x y z) : ∀ n {f : Nat → Nat}, (∀ i, f i = x ∨ f i = y ∨ f i = z) → x3 (dsum f n x) (dsum f n y) (dsum f n z) = 2 ^ n - 1
  | 0, f, _ => by unfold dsum; decide +kernel
  | n + 1, f, hf => by
    have ih := dsum_x3 h n (f := fun i => f (i + 1)) fun i => hf (i + 1)
    have := h.xy; have := h.xz; have := h.yz
    rw [x3_halves, dsum_low, dsum_low, dsum_low, Int.pow_succ]
    generalize dsum (fun i => f (i + 1)) n x = X at *
    generalize dsum (fun i => f (i + 1)) n y = Y at *
    generalize dsum (fun i => f (i + 1)) n z = Z at *
    have key : ∀ p q r : Int, (p = 0 ∨ p = 1) → (q = 0 ∨ q = 1) → (r = 0 ∨ r = 1) → p + q + r = 1 → 2 * x3 ((p + 2 * X) / 2) ((q + 2 * Y) / 2) ((r + 2 * Z) / 2) + (p + 2 * X + (q + 2 * Y) + (r + 2 * Z)) % 2 = 2 ^ n * 2 - 1 := by
      intro p q r hp hq hr hs
      rw [show (p + 2 * X) / 2 = X by omega, show (q + 2 * Y) / 2 = Y by omega, show (r + 2 * Z) / 2 = Z by omega, ih]; omega
    refine key _ _ _ (by split <;> simp) (by split <;> simp) (by split <;> simp) ?_
    rcases hf 0 with e | e | e <;> rw [e] <;> simp <;> split <;> first | omega | (split <;> omega)
theorem ways_x3 {x y z : Nat} (h : Tri3 x y z) : ∀ n {f : Nat → Nat}, (∀ i, f i = x ∨ f i = y ∨ f i = z) → x3 (2 ^ n - 1 - dsum f n x) (2 ^ n - 1 - dsum f n y) (2 ^ n - 1 - dsum f n z) = 0
  | 0, f, _ => by unfold dsum; decide +kernel
  | n + 1, f, hf => by
    have ih := ways_x3 h n (f := fun i => f (i + 1)) fun i => hf (i + 1)
    have := h.xy; have := h.xz; have := h.yz
    rw [x3_halves, dsum_low, dsum_low, dsum_low, Int.pow_succ]
    generalize dsum (fun i => f (i + 1)) n x = X at *
    generalize dsum (fun i => f (i + 1)) n y = Y at *
    generalize dsum (fun i => f (i + 1)) n z = Z at *
    have key : ∀ p q r : Int, (p = 0 ∨ p = 1) → (q = 0 ∨ q = 1) → (r = 0 ∨ r = 1) → p + q + r = 1 →
        2 * x3 ((2 ^ n * 2 - 1 - (p + 2 * X)) / 2) ((2 ^ n * 2 - 1 - (q + 2 * Y)) / 2) ((2 ^ n * 2 - 1 - (r + 2 * Z)) / 2) + (2 ^ n * 2 - 1 - (p + 2 * X) + (2 ^ n * 2 - 1 - (q + 2 * Y)) + (2 ^ n * 2 - 1 - (r + 2 * Z))) % 2 = 0 := by
      intro p q r hp hq hr hs
      rw [show (2 ^ n * 2 - 1 - (p + 2 * X)) / 2 = 2 ^ n - 1 - X by omega, show (2 ^ n * 2 - 1 - (q + 2 * Y)) / 2 = 2 ^ n - 1 - Y by omega, show (2 ^ n * 2 - 1 - (r + 2 * Z)) / 2 = 2 ^ n - 1 - Z by omega, ih]; omega
    refine key _ _ _ (by split <;> simp) (by split <;> simp) (by split <;> simp) ?_
    rcases hf 0 with e | e | e <;> rw [e] <;> simp <;> split <;> first | omega | (split <;> omega)
/-- the lesser bits are all on the lamp y, the next on x -/
def Pat (f : Nat → Nat) (n x y : Nat) : Prop := ∃ J, 0 < J ∧ J < n ∧ (∀ i, i < J → f i = y) ∧ f J = x
theorem carry_bad {x y z : Nat} (h : Tri3 x y z) : ∀ n {f : Nat → Nat}, (∀ i, f i = x ∨ f i = y ∨ f i = z) → f 0 ≠ x → 0 < dsum f n x → ¬ Pat f n x y → x3 (dsum f n x - 1) (dsum f n y + 1) (dsum f n z) ≠ 2 ^ n - 1
  | 0, f, _, _, h0, _ => by unfold dsum at h0; omega
  | n + 1, f, hf, hx, h0, hp => by
    have hxy := h.xy; have hxz := h.xz; have hyz := h.yz
    have hs := dsum_sum h (f := fun i => f (i + 1)) (fun i => hf (i + 1)) n
    have bX := dsum_bd (fun i => f (i + 1)) n x
    have bY := dsum_bd (fun i => f (i + 1)) n y
    have bZ := dsum_bd (fun i => f (i + 1)) n z
    have ih := carry_bad h n (f := fun i => f (i + 1)) (fun i => hf (i + 1))
    rw [dsum_low, if_neg hx] at h0
    rw [x3_halves, dsum_low, dsum_low, dsum_low, if_neg hx, Int.pow_succ]
    generalize dsum (fun i => f (i + 1)) n x = X at *
    generalize dsum (fun i => f (i + 1)) n y = Y at *
    generalize dsum (fun i => f (i + 1)) n z = Z at *
    have hX : 0 < X := by omega
    rcases hf 0 with e | e | e
    · exact absurd e hx
    · rw [if_pos e, if_neg (by omega)]
      rw [show (0 + 2 * X - 1) / 2 = X - 1 by omega, show (1 + 2 * Y + 1) / 2 = Y + 1 by omega, show (0 + 2 * Z) / 2 = Z by omega]
      have n1 : f 1 ≠ x := fun e1 => hp ⟨1, by omega, ?_, fun i hi => by rw [show i = 0 by omega]; exact e, e1⟩
      · have := ih n1 hX fun ⟨J, j0, jn, j1, j2⟩ => hp ⟨J + 1, by omega, by omega, fun i hi => by
          cases i with
          | zero => exact e
          | succ i => exact j1 i (by omega), j2⟩
        omega
      · rcases n with _ | n
        · rw [Int.pow_zero] at bX; omega
        · omega
    · rw [if_neg (by omega), if_pos e]
      rw [show (0 + 2 * X - 1) / 2 = X - 1 by omega, show (0 + 2 * Y + 1) / 2 = Y by omega, show (1 + 2 * Z) / 2 = Z by omega]
      have := x3_le n (X - 1) Y Z (by omega) (by omega) (by omega) (by omega) (by omega) (by omega)
      omega
theorem dsum_upd (f : Nat → Nat) (k p c : Nat) : ∀ n, dsum (upd f k p) n c = dsum f n c + (if k < n then (if p = c then 2 ^ k else 0) - (if f k = c then 2 ^ k else 0) else 0)
  | 0 => by unfold dsum; simp
  | n + 1 => by
    have ih := dsum_upd f k p c n
    show dsum (upd f k p) n c + (if upd f k p n = c then 2 ^ n else 0) = dsum f n c + (if f n = c then 2 ^ n else 0) + _
    rw [ih]
    by_cases e : n = k
    · subst e
      have : upd f n p n = p := by unfold upd; rw [if_pos rfl]
      rw [this, if_neg (Nat.lt_irrefl n), if_pos (Nat.lt_succ_self n)]
      omega
    · have : upd f k p n = f n := by unfold upd; rw [if_neg e]
      rw [this]
      generalize (if f n = c then (2 : Int) ^ n else 0) = E
      generalize (if p = c then (2 : Int) ^ k else 0) = A
      generalize (if f k = c then (2 : Int) ^ k else 0) = B
      by_cases q : k < n
      · rw [if_pos q, if_pos (Nat.lt_succ_of_lt q)]; omega
      · rw [if_neg q, if_neg (by omega)]; omega
theorem dsum_const {f : Nat → Nat} {y c : Nat} : ∀ {m}, (∀ i, i < m → f i = y) → dsum f m c = if y = c then 2 ^ m - 1 else 0
  | 0, _ => by unfold dsum; split <;> simp
  | m + 1, h => by
    have ih := dsum_const (c := c) fun i hi => h i (Nat.lt_succ_of_lt hi)
    unfold dsum
    rw [ih, h m (Nat.lt_succ_self m), Int.pow_succ]
    split <;> omega
/-- the run below J is carried over -/
def swp (f : Nat → Nat) (J x y : Nat) : Nat → Nat := fun i => if i < J then x else if i = J then y else f i
theorem dsum_swp {f : Nat → Nat} {J x y c : Nat} (h1 : ∀ i, i < J → f i = y) (h2 : f J = x) : ∀ m, J < m → dsum (swp f J x y) m c = dsum f m c + (if y = c then 1 else 0) - (if x = c then 1 else 0)
  | 0, h => by omega
  | m + 1, h => by
    show dsum (swp f J x y) m c + (if swp f J x y m = c then 2 ^ m else 0) = dsum f m c + (if f m = c then 2 ^ m else 0) + _ - _
    by_cases e : J = m
    · subst e
      have a1 : dsum (swp f J x y) J c = if x = c then 2 ^ J - 1 else 0 := dsum_const fun i hi => by unfold swp; rw [if_pos hi]
      have a2 : dsum f J c = if y = c then 2 ^ J - 1 else 0 := dsum_const h1
      have a3 : swp f J x y J = y := by unfold swp; rw [if_neg (Nat.lt_irrefl J), if_pos rfl]
      rw [a1, a2, a3, h2]
      split <;> split <;> omega
    · have ih := dsum_swp (c := c) h1 h2 m (by omega)
      have : swp f J x y m = f m := by unfold swp; rw [if_neg (by omega), if_neg (by omega)]
      rw [ih, this]; omega
/-- the lowest bit -/
theorem low_bit {x : Nat} : ∀ (J n : Nat) {f : Nat → Nat}, J < n → (∀ i, i < J → f i ≠ x) → f J = x → 0 < dsum f n x ∧ bx (dsum f n x) (dsum f n x - 1) = 2 ^ (J + 1) - 1
  | _, 0, _, h, _, _ => by omega
  | 0, n + 1, f, _, _, h => by
    have b := dsum_bd (fun i => f (i + 1)) n x
    rw [dsum_low, if_pos h]
    generalize dsum (fun i => f (i + 1)) n x = X at *
    refine ⟨by omega, ?_⟩
    rw [bx_halves, show (1 + 2 * X) / 2 = X by omega, show (1 + 2 * X - 1) / 2 = X by omega, bx_self, if_neg (by omega)]; rfl
  | J + 1, n + 1, f, hJ, h1, h2 => by
    obtain ⟨i1, i2⟩ := low_bit J n (f := fun i => f (i + 1)) (by omega) (fun i hi => h1 (i + 1) (by omega)) h2
    rw [dsum_low, if_neg (h1 0 (by omega))]
    generalize dsum (fun i => f (i + 1)) n x = X at *
    refine ⟨by omega, ?_⟩
    rw [bx_halves, show (0 + 2 * X) / 2 = X by omega, show (0 + 2 * X - 1) / 2 = X - 1 by omega, i2, if_neg (by omega), Int.pow_succ 2 (J + 1)]; omega
/-- the lowest bit of the way -/
theorem low_way {x : Nat} : ∀ (J n : Nat) {f : Nat → Nat}, J < n → (∀ i, i < J → f i = x) → f J ≠ x → 0 < 2 ^ n - 1 - dsum f n x ∧ (2 ^ n - 1 - dsum f n x) - Builtin.bitAnd (2 ^ n - 1 - dsum f n x) (2 ^ n - 1 - dsum f n x - 1) = 2 ^ J
  | _, 0, _, h, _, _ => by omega
  | 0, n + 1, f, _, _, h => by
    have b := dsum_bd (fun i => f (i + 1)) n x
    rw [dsum_low, if_neg h, Int.pow_succ]
    generalize dsum (fun i => f (i + 1)) n x = X at *
    refine ⟨by omega, ?_⟩
    rw [PySem.W.kbt_halves, show (2 ^ n * 2 - 1 - (0 + 2 * X)) / 2 = 2 ^ n - 1 - X by omega, show (2 ^ n * 2 - 1 - (0 + 2 * X) - 1) / 2 = 2 ^ n - 1 - X by omega, bitAnd_self, if_neg (by omega), Int.pow_zero]; omega
  | J + 1, n + 1, f, hJ, h1, h2 => by
    obtain ⟨i1, i2⟩ := low_way J n (f := fun i => f (i + 1)) (by omega) (fun i hi => h1 (i + 1) (by omega)) h2
    rw [dsum_low, if_pos (h1 0 (by omega)), Int.pow_succ 2 n]
    generalize dsum (fun i => f (i + 1)) n x = X at *
    refine ⟨by omega, ?_⟩
    rw [PySem.W.kbt_halves, show (2 ^ n * 2 - 1 - (1 + 2 * X)) / 2 = 2 ^ n - 1 - X by omega, show (2 ^ n * 2 - 1 - (1 + 2 * X) - 1) / 2 = 2 ^ n - 1 - X - 1 by omega, if_neg (by omega), Int.pow_succ]
    omega
/-- ways -/
theorem way_eq {t : Nat → Nat} (ht : ∀ k, t k < 3) : ∀ n g, g < 3 → way t n g = 2 ^ n - 1 - hpaint t 0 n g
  | 0, g, _ => by unfold way hpaint; decide
  | n + 1, g, hg => by
    have tn := ht n
    show (if t n = g then way t n g else 2 ^ n + way t n (thd g (t n))) = 2 ^ (n + 1) - 1 - (hpaint t 0 n (mir (t n) g) + (if g = t n then 2 ^ n else 0))
    rw [Int.pow_succ]
    by_cases c : t n = g
    · rw [if_pos c, if_pos c.symm, way_eq ht n g hg, c, mir_self hg]; omega
    · have e : thd g (t n) = mir (t n) g := by unfold thd mir; omega
      rw [if_neg c, if_neg (fun h => c h.symm), e, way_eq ht n _ (mir_lt _ _)]; omega
theorem way_bd {t : Nat → Nat} (ht : ∀ k, t k < 3) (n g : Nat) (hg : g < 3) : 0 ≤ way t n g ∧ way t n g < 2 ^ n := by
  have := hpaint_bd t 0 n g
  rw [way_eq ht n g hg]; omega
/-- the greatest disc that is not on the goal -/
def grt (t : Nat → Nat) (g : Nat) : Nat → Int
  | 0 => -1
  | n + 1 => if t n = g then grt t g n else n
theorem hb_way {t : Nat → Nat} (ht : ∀ k, t k < 3) : ∀ n g, g < 3 → hb (way t n g) = grt t g n
  | 0, g, _ => by unfold way grt; exact hb_zero
  | n + 1, g, hg => by
    show hb (if t n = g then way t n g else 2 ^ n + way t n (thd g (t n))) = if t n = g then grt t g n else n
    by_cases c : t n = g
    · rw [if_pos c, if_pos c]; exact hb_way ht n g hg
    · rw [if_neg c, if_neg c]
      have b := way_bd ht n _ (thd_lt hg (ht n) c).1
      exact hb_eq (by omega) (by rw [Int.pow_succ]; omega)
theorem way_zero {t : Nat → Nat} (ht : ∀ k, t k < 3) : ∀ n g, g < 3 → (way t n g = 0 ↔ ∀ k, k < n → t k = g)
  | 0, g, _ => ⟨fun _ k hk => by omega, fun _ => rfl⟩
  | n + 1, g, hg => by
    have ih := way_zero ht n g hg
    show (if t n = g then way t n g else 2 ^ n + way t n (thd g (t n))) = 0 ↔ _
    by_cases c : t n = g
    · rw [if_pos c, ih]
      refine ⟨fun h k hk => ?_, fun h k hk => h k (by omega)⟩
      by_cases e : k = n
      · rw [e]; exact c
      · exact h k (by omega)
    · rw [if_neg c]
      have b := way_bd ht n _ (thd_lt hg (ht n) c).1
      have := p2 n
      exact ⟨fun h => by omega, fun h => absurd (h n (by omega)) c⟩
theorem single_split (n : Nat) {r : Int} (h0 : 0 ≤ r) (h1 : r < 2 ^ n) : singleBit (2 ^ n + r) = decide (r = 0) := by
  have hp := p2 n
  unfold singleBit
  have : ((2 : Int) ^ n + r == 0) = false := by rw [beq_eq_false_iff_ne]; omega
  rw [this]
  simp only [Bool.false_eq_true, if_false]
  by_cases e : r = 0
  · subst e
    rw [Int.add_zero, PySem.W.kbt_mask, Int.emod_self]; rfl
  · have e1 := bx_split n 1 1 r (r - 1) h0 h1 (by omega) (by omega)
    have e2 : Builtin.bitXor (2 ^ n + r) (2 ^ n + r - 1) = bx r (r - 1) := by
      rw [show (2 : Int) ^ n + r = 1 * 2 ^ n + r by omega, show 1 * (2 : Int) ^ n + r - 1 = 1 * 2 ^ n + (r - 1) by omega]
      show bx _ _ = _
      rw [e1, bx_self]; omega
    have b := bx_bd n r (r - 1) h0 h1 (by omega) (by omega)
    rw [bitXor_and] at e2
    have : decide (r = 0) = false := by simpa using e
    rw [this, beq_eq_false_iff_ne]
    omega
/-- can it go there at once -/
def onceB (t : Nat → Nat) (g : Nat) (n : Nat) : Bool := decide (0 ≤ grt t g n) && (List.range (grt t g n).toNat).all fun k => t k == thd g (t (grt t g n).toNat)
theorem single_way {t : Nat → Nat} (ht : ∀ k, t k < 3) : ∀ n g, g < 3 → singleBit (way t n g) = onceB t g n
  | 0, g, _ => by unfold way onceB grt; rw [show decide ((0 : Int) ≤ -1) = false by decide, Bool.false_and]; decide +kernel
  | n + 1, g, hg => by
    have ih := single_way ht n g hg
    unfold onceB at ih ⊢
    show singleBit (if t n = g then way t n g else 2 ^ n + way t n (thd g (t n))) = _
    unfold grt
    by_cases c : t n = g
    · rw [if_pos c, if_pos c]; exact ih
    · rw [if_neg c, if_neg c]
      obtain ⟨q, _⟩ := thd_lt hg (ht n) c
      have b := way_bd ht n _ q
      rw [single_split n b.1 b.2]
      have : decide ((0 : Int) ≤ (n : Int)) = true := by simp
      rw [this, Bool.true_and, Int.toNat_natCast, decide_eq_decide.mpr (way_zero ht n _ q)]
      rw [Bool.eq_iff_iff, decide_eq_true_eq, List.all_eq_true]
      simp only [List.mem_range, beq_iff_eq]
theorem grt_lt (t : Nat → Nat) (g : Nat) : ∀ n, -1 ≤ grt t g n ∧ grt t g n < n
  | 0 => by unfold grt; omega
  | n + 1 => by have := grt_lt t g n; unfold grt; split <;> omega
/-- the run of the lowest bits that are on one lamp -/
structure Rn (f : Nat → Nat) (n J : Nat) : Prop where
  j0 : 0 < J
  jn : J ≤ n
  low : ∀ i, i < J → f i = f 0
  out : J < n → f J ≠ f 0
theorem run_ex (f : Nat → Nat) : ∀ n, 0 < n → ∃ J, Rn f n J
  | 0, h => by omega
  | 1, _ => ⟨1, by decide, by decide, fun i hi => by rw [show i = 0 by omega], fun h => by omega⟩
  | n + 2, _ => by
    obtain ⟨J, j0, jn, low, out⟩ := run_ex f (n + 1) (by omega)
    by_cases e : J < n + 1
    · exact ⟨J, j0, by omega, low, fun _ => out e⟩
    · have e1 : J = n + 1 := by omega
      subst e1
      by_cases c : f (n + 1) = f 0
      · refine ⟨n + 2, by omega, by omega, fun i hi => ?_, fun h => by omega⟩
        by_cases q : i = n + 1
        · rw [q]; exact c
        · exact low i (by omega)
      · exact ⟨n + 1, by omega, by omega, low, fun _ => c⟩
def okB (f : Nat → Nat) (n J g j : Nat) : Bool := g != j && (g == f 0 || (decide (J < n) && g == f J && j == f 0))
def aftF (f : Nat → Nat) (J g j : Nat) : Nat → Nat := if g = f 0 then upd f 0 j else swp f J g j
def dsc (f : Nat → Nat) (J g : Nat) : Nat := if g = f 0 then 0 else J
section
variable {f : Nat → Nat} {n J : Nat}
theorem tri3_of {g j : Nat} (hg : g < 3) (hj : j < 3) (h : g ≠ j) : Tri3 g j (3 - g - j) ∧ (∀ i, i < 3 → i = g ∨ i = j ∨ i = 3 - g - j) ∧ 3 - g - j < 3 := by
  refine ⟨⟨h, by omega, by omega⟩, by omega, by omega⟩
theorem okB_cases (hn : Rn f n J) {g j : Nat} (h : okB f n J g j = true) : g ≠ j ∧ (g = f 0 ∨ (J < n ∧ g = f J ∧ j = f 0 ∧ g ≠ f 0)) := by
  unfold okB at h
  simp only [Bool.and_eq_true, bne_iff_ne, ne_eq, Bool.or_eq_true, beq_iff_eq, decide_eq_true_eq] at h
  refine ⟨h.1, ?_⟩
  rcases h.2 with e | ⟨⟨e1, e2⟩, e3⟩
  · exact .inl e
  · exact .inr ⟨e1, e2, e3, by rw [e2]; exact hn.out e1⟩
theorem aft_sum (hn : Rn f n J) (h0 : 0 < n) {g j : Nat} (h : okB f n J g j = true) (c : Nat) : dsum (aftF f J g j) n c = dsum f n c + (if j = c then 1 else 0) - (if g = c then 1 else 0) := by
  obtain ⟨hne, e | ⟨e1, e2, e3, e4⟩⟩ := okB_cases hn h
  · unfold aftF
    rw [if_pos e, dsum_upd, if_pos h0, Int.pow_zero, e]; omega
  · unfold aftF
    rw [if_neg e4]
    exact dsum_swp (fun i hi => by rw [hn.low i hi, e3]) e2.symm n e1
theorem aft_lt (hf : ∀ i, f i < 3) {g j : Nat} (hg : g < 3) (hj : j < 3) (i : Nat) : aftF f J g j i < 3 := by
  unfold aftF
  split
  · show (if i = 0 then j else f i) < 3
    split <;> first | assumption | exact hf _
  · show (if i < J then g else if i = J then j else f i) < 3
    split <;> first | assumption | (split <;> first | assumption | exact hf _)
theorem own_pos (hn : Rn f n J) (h0 : 0 < n) {g j : Nat} (h : okB f n J g j = true) : 0 < dsum f n g ∧ hb (bx (dsum f n g) (dsum f n g - 1)) = dsc f J g := by
  obtain ⟨hne, e | ⟨e1, e2, e3, e4⟩⟩ := okB_cases hn h
  · obtain ⟨q1, q2⟩ := low_bit (x := g) 0 n (f := f) h0 (fun i hi => by omega) e.symm
    refine ⟨q1, ?_⟩
    unfold dsc
    rw [q2, hb_pred, if_pos e]
  · obtain ⟨q1, q2⟩ := low_bit (x := g) J n (f := f) e1 (fun i hi => by rw [hn.low i hi]; exact e4.symm) e2.symm
    refine ⟨q1, ?_⟩
    unfold dsc
    rw [q2, hb_pred, if_neg e4]
theorem hb_full {n : Nat} {x : Int} (h0 : 0 ≤ x) (h1 : x ≤ 2 ^ n - 1) : (hb (x + 1) = n) ↔ x = 2 ^ n - 1 := by
  constructor
  · intro h
    by_cases e : x = 2 ^ n - 1
    · exact e
    · have := hb_le (n := x + 1) (k := n) (by omega) (by omega)
      omega
  · rintro rfl
    exact hb_eq (by omega) (by rw [Int.pow_succ]; have := p2 n; omega)
theorem carry_iff (hf : ∀ i, f i < 3) (hn : Rn f n J) (h0 : 0 < n) {g j : Nat} (hg : g < 3) (hj : j < 3) (hne : g ≠ j) (hp : 0 < dsum f n g) :
    (hb (x3 (dsum f n g - 1) (dsum f n j + 1) (dsum f n (3 - g - j)) + 1) = n) ↔ okB f n J g j = true := by
  obtain ⟨tr, cov, z3⟩ := tri3_of hg hj hne
  have hs := dsum_sum tr (fun i => cov _ (hf i)) n
  have b1 := dsum_bd f n g
  have b2 := dsum_bd f n j
  have b3 := dsum_bd f n (3 - g - j)
  have hle := x3_le (n + 1) (dsum f n g - 1) (dsum f n j + 1) (dsum f n (3 - g - j)) (by omega) (by omega) (by omega) (by rw [Int.pow_succ]; omega) (by rw [Int.pow_succ]; omega) (by rw [Int.pow_succ]; omega)
  rw [hb_full hle.1 (by omega)]
  constructor
  · intro hx
    by_cases e : g = f 0
    · unfold okB; simp [hne, e]
      rw [← e]; exact hne
    · by_cases pt : Pat f n g j
      · obtain ⟨K, k0, kn, k1, k2⟩ := pt
        have j0 : f 0 = j := k1 0 k0
        have hKJ : K = J := by
          rcases Nat.lt_trichotomy K J with q | q | q
          · exact absurd (hn.low K q) (by rw [k2]; exact e)
          · exact q
          · exact absurd (k1 J q) (by rw [← j0]; exact hn.out (by omega))
        subst hKJ
        unfold okB; simp [hne, kn, k2, j0]
      · exact absurd hx (carry_bad tr n (fun i => cov _ (hf i)) (fun q => e q.symm) hp pt)
  · intro h
    have a := aft_sum hn h0 h
    have x := dsum_x3 tr n (f := aftF f J g j) fun i => cov _ (aft_lt hf hg hj i)
    rw [a, a, a] at x
    have c1 : g ≠ 3 - g - j := tr.xz
    have c2 : j ≠ 3 - g - j := tr.yz
    rw [if_neg hne.symm, if_pos rfl, if_pos rfl, if_neg hne, if_neg c2, if_neg c1] at x
    rw [← x]
    congr 1 <;> omega

-- the towers
theorem mir_sym (a b : Nat) : mir a b = mir b a := by unfold mir; omega
theorem qf_stay {m a O : Nat} (hO : O < 3) (hm : qf f n m a = O) : ∀ d, (∀ i, m ≤ i → i < m + d → f (n - 1 - i) = a) → qf f n (m + d) a = O
  | 0, _ => hm
  | d + 1, h => by
    have ih := qf_stay hO hm d fun i h1 h2 => h i h1 (by omega)
    show mir (qf f n (m + d) (f (n - 1 - (m + d)))) (qf f n (m + d) a) = O
    rw [h (m + d) (by omega) (by omega), ih, mir_self hO]
/-- the perm ahead of the least disc -/
def sg (f : Nat → Nat) (n a : Nat) : Nat := qf f n (n - 1) a
theorem aft_zero (h0 : 0 < n) {g j : Nat} (e : g = f 0) : ∀ k, k < n → twr (aftF f J g j) n k = upd (twr f n) 0 (sg f n j) k := by
  intro k hk
  unfold aftF
  rw [if_pos e]
  have hq : ∀ m, m ≤ n - 1 → ∀ a, qf (upd f 0 j) n m a = qf f n m a := fun m hm a => qf_congr fun i hi => by unfold upd; rw [if_neg (by omega)]
  unfold twr upd
  by_cases c : k = 0
  · subst c
    rw [if_pos rfl, if_pos rfl]
    exact hq _ (by omega) _
  · rw [if_neg c, if_neg c]
    exact hq _ (by omega) _
structure Low (f : Nat → Nat) (n J : Nat) : Prop where
  ne : twr f n J ≠ twr f n 0
  low : ∀ k, k < J → twr f n k = twr f n 0
theorem low_at (hf : ∀ i, f i < 3) {a b : Nat} (hJ : J < n) (j0 : 0 < J) (h1 : ∀ i, i < J → f i = a) (h2 : f J = b) : ∀ k, k < J → twr f n k = mir (qf f n (n - 1 - J) b) (qf f n (n - 1 - J) a) := by
  intro k hk
  have e : qf f n (n - 1 - J + 1) a = mir (qf f n (n - 1 - J) b) (qf f n (n - 1 - J) a) := by
    show mir (qf f n (n - 1 - J) (f (n - 1 - (n - 1 - J)))) _ = _
    rw [show n - 1 - (n - 1 - J) = J by omega, h2]
  have := qf_stay (f := f) (n := n) (mir_lt _ _) e (J - 1 - k) fun i q1 q2 => h1 _ (by omega)
  unfold twr
  rw [h1 k hk, show n - 1 - k = n - 1 - J + 1 + (J - 1 - k) by omega]
  exact this
theorem aft_swp (hf : ∀ i, f i < 3) (hn : Rn f n J) (hJ : J < n) {g j : Nat} (e2 : g = f J) (e3 : j = f 0) : ∀ k, k < n → twr (aftF f J g j) n k = upd (twr f n) J (thd (twr f n J) (twr f n 0)) k := by
  intro k hk
  have hne := hn.out hJ
  have hg : g < 3 := by rw [e2]; exact hf J
  have hj : j < 3 := by rw [e3]; exact hf 0
  have e4 : g ≠ f 0 := by rw [e2]; exact hne
  unfold aftF
  rw [if_neg e4]
  have hq : ∀ m, m ≤ n - 1 - J → ∀ a, qf (swp f J g j) n m a = qf f n m a := fun m hm a => qf_congr fun i hi => by unfold swp; rw [if_neg (by omega), if_neg (by omega)]
  have l1 := low_at hf hJ hn.j0 (a := j) (b := g) (fun i hi => by rw [hn.low i hi, e3]) e2.symm
  have l2 := low_at (f := swp f J g j) (fun i => by unfold swp; split <;> first | assumption | (split <;> first | assumption | exact hf _)) hJ hn.j0 (a := g) (b := j) (fun i hi => by unfold swp; rw [if_pos hi]) (by unfold swp; rw [if_neg (Nat.lt_irrefl J), if_pos rfl])
  rw [hq _ (Nat.le_refl _), hq _ (Nat.le_refl _)] at l2
  have tJ : twr f n J = qf f n (n - 1 - J) g := by unfold twr; rw [← e2]
  have t0 := l1 0 hn.j0
  have ga := qf_lt (f := f) (n := n) hg (n - 1 - J)
  have gj := qf_lt (f := f) (n := n) hj (n - 1 - J)
  have gne : qf f n (n - 1 - J) g ≠ qf f n (n - 1 - J) j := fun h => by
    have := qf_inj hg hj _ h
    exact e4 (this.trans e3)
  unfold upd
  rcases Nat.lt_trichotomy k J with c | c | c
  · rw [if_neg (by omega), l2 k c, l1 k c, mir_sym]
  · subst c
    rw [if_pos rfl, tJ, t0]
    have : twr (swp f k g j) n k = qf f n (n - 1 - k) j := by
      unfold twr
      rw [hq _ (Nat.le_refl _)]
      unfold swp
      rw [if_neg (Nat.lt_irrefl k), if_pos rfl]
    rw [this]
    clear this l1 l2 t0 tJ hq
    generalize qf f n (n - 1 - k) g = G at *
    generalize qf f n (n - 1 - k) j = T at *
    have g3 : G = 0 ∨ G = 1 ∨ G = 2 := by omega
    have t3 : T = 0 ∨ T = 1 ∨ T = 2 := by omega
    rcases g3 with rfl | rfl | rfl <;> rcases t3 with rfl | rfl | rfl <;> first | rfl | exact absurd rfl gne
  · rw [if_neg (by omega)]
    unfold twr
    rw [hq _ (by omega)]
    unfold swp
    rw [if_neg (by omega), if_neg (by omega)]
theorem twr_low (hf : ∀ i, f i < 3) (hn : Rn f n J) : (∀ k, k < J → twr f n k = twr f n 0) ∧ (J < n → twr f n J ≠ twr f n 0) := by
  by_cases hJ : J < n
  · have l1 := low_at hf hJ hn.j0 (a := f 0) (b := f J) hn.low rfl
    refine ⟨fun k hk => by rw [l1 k hk, l1 0 hn.j0], fun _ h => ?_⟩
    rw [l1 0 hn.j0] at h
    have ga := qf_lt (f := f) (n := n) (hf J) (n - 1 - J)
    have gj := qf_lt (f := f) (n := n) (hf 0) (n - 1 - J)
    have gne : qf f n (n - 1 - J) (f J) ≠ qf f n (n - 1 - J) (f 0) := fun h => hn.out hJ (qf_inj (hf J) (hf 0) _ h)
    have tJ : twr f n J = qf f n (n - 1 - J) (f J) := rfl
    rw [tJ] at h
    exact (mir_ne ga gj gne.symm).1 h.symm
  · have e : J = n := by have := hn.jn; omega
    subst e
    refine ⟨fun k hk => ?_, fun h => absurd h (Nat.lt_irrefl _)⟩
    have st : ∀ d, d ≤ J → qf f J (0 + d) (f 0) = f 0 := fun d hd => qf_stay (f := f) (n := J) (hf 0) rfl d fun i h1 h2 => hn.low _ (by omega)
    have tk : ∀ k, k < J → twr f J k = f 0 := fun k hk => by
      unfold twr
      rw [hn.low k hk]
      have := st (J - 1 - k) (by omega)
      rwa [Nat.zero_add] at this
    rw [tk k hk, tk 0 (by omega)]
end
theorem tow_congr {t s : Nat → Nat} {n : Nat} (h : ∀ k, k < n → t k = s k) : tow t n = tow s n := by
  unfold tow
  exact List.map_congr_left fun k hk => by rw [h k (List.mem_range.mp hk)]
theorem tow_in {t : Nat → Nat} {n m p : Nat} (h : m ≤ n) : ((tow t n).take m).contains ((p : Nat) : Int) = true ↔ ∃ i, i < m ∧ t i = p := by
  rw [List.contains_iff_mem]
  unfold tow
  rw [← List.map_take, List.take_range, Nat.min_eq_left h]
  simp only [List.mem_map, List.mem_range]
  constructor
  · rintro ⟨i, hi, e⟩; exact ⟨i, hi, by omega⟩
  · rintro ⟨i, hi, e⟩; exact ⟨i, hi, by rw [e]⟩
theorem okM_iff {t : Nat → Nat} {n k p : Nat} (h : k < n) : okM t n k p = true ↔ (∀ i, i < k → t i ≠ t k) ∧ ∀ i, i ≤ k → t i ≠ p := by
  unfold okM
  rw [Bool.and_eq_true, Bool.not_eq_true', Bool.not_eq_true', ← Bool.not_eq_true, ← Bool.not_eq_true, tow_in (by omega), tow_in (by omega)]
  constructor
  · rintro ⟨a, b⟩
    exact ⟨fun i hi e => a ⟨i, hi, e⟩, fun i hi e => b ⟨i, by omega, e⟩⟩
  · rintro ⟨a, b⟩
    exact ⟨fun ⟨i, hi, e⟩ => a i hi e, fun ⟨i, hi, e⟩ => b i (by omega) e⟩
theorem mrow_no {t : Nat → Nat} {n k p : Nat} (h : ¬ okM t n k p = true) : mrow t n k p = [] := by unfold mrow; rw [if_neg h]
theorem mrow_yes {t : Nat → Nat} {n k p : Nat} (h : okM t n k p = true) : mrow t n k p = [tow (upd t k p) n] := by unfold mrow; rw [if_pos h]
theorem mIn3 (t : Nat → Nat) (n k : Nat) : mIn t n k 3 = mrow t n k 0 ++ mrow t n k 1 ++ mrow t n k 2 := by
  show ([] ++ mrow t n k 0) ++ mrow t n k 1 ++ mrow t n k 2 = _
  rw [List.nil_append]
theorem pigB : ([0, 1, 2].all fun a => [0, 1, 2].all fun b => [0, 1, 2].all fun c => [0, 1, 2].all fun p => a == b || a == c || b == c || a == p || b == p || c == p) = true := by decide
theorem in3 {a : Nat} (h : a < 3) : a ∈ [0, 1, 2] := by rcases three h with rfl | rfl | rfl <;> simp
theorem pig {a b c p : Nat} (ha : a < 3) (hb : b < 3) (hc : c < 3) (hp : p < 3) (h1 : a ≠ b) (h2 : a ≠ c) (h3 : b ≠ c) (h4 : a ≠ p) (h5 : b ≠ p) (h6 : c ≠ p) : False := by
  have h := List.all_eq_true.mp (List.all_eq_true.mp (List.all_eq_true.mp (List.all_eq_true.mp pigB a (in3 ha)) b (in3 hb)) c (in3 hc)) p (in3 hp)
  simp [h1, h2, h3, h4, h5, h6] at h
section
variable {t : Nat → Nat} {n J : Nat}
theorem mIn_none {k : Nat} (hk : k < n) (h : ∀ p, p < 3 → ¬ okM t n k p = true) : mIn t n k 3 = [] := by
  rw [mIn3, mrow_no (h 0 (by decide)), mrow_no (h 1 (by decide)), mrow_no (h 2 (by decide))]; rfl
theorem mIn_one {k q : Nat} (hk : k < n) (hq : q < 3) (h : ∀ p, p < 3 → (okM t n k p = true ↔ p = q)) : mIn t n k 3 = [tow (upd t k q) n] := by
  rw [mIn3]
  rcases three hq with rfl | rfl | rfl
  · rw [mrow_yes ((h 0 hq).mpr rfl), mrow_no (fun e => absurd ((h 1 (by decide)).mp e) (by decide)), mrow_no (fun e => absurd ((h 2 (by decide)).mp e) (by decide))]; rfl
  · rw [mrow_no (fun e => absurd ((h 0 (by decide)).mp e) (by decide)), mrow_yes ((h 1 hq).mpr rfl), mrow_no (fun e => absurd ((h 2 (by decide)).mp e) (by decide))]; rfl
  · rw [mrow_no (fun e => absurd ((h 0 (by decide)).mp e) (by decide)), mrow_no (fun e => absurd ((h 1 (by decide)).mp e) (by decide)), mrow_yes ((h 2 hq).mpr rfl)]; rfl
theorem mOut_at (ht : ∀ k, t k < 3) (j0 : 0 < J) (jn : J ≤ n) (T1 : ∀ k, k < J → t k = t 0) (T2 : J < n → t J ≠ t 0) : ∀ k, 0 < k → k ≤ n → mOut t n k = mIn t n 0 3 ++ (if J < k then [tow (upd t J (thd (t J) (t 0))) n] else [])
  | 0, h, _ => by omega
  | 1, _, _ => by
    show [] ++ mIn t n 0 3 = _
    rw [if_neg (by omega), List.nil_append, List.append_nil]
  | k + 2, _, hk => by
    have ih := mOut_at ht j0 jn T1 T2 (k + 1) (by omega) (by omega)
    show mOut t n (k + 1) ++ mIn t n (k + 1) 3 = _
    rw [ih]
    rcases Nat.lt_trichotomy (k + 1) J with c | c | c
    · have hmn : mIn t n (k + 1) 3 = [] := mIn_none (by omega) fun p _ h => by
        have := (okM_iff (by omega)).mp h
        exact this.1 0 (by omega) (T1 (k + 1) c).symm
      rw [hmn, List.append_nil, if_neg (by omega), if_neg (by omega)]
    · subst c
      rw [if_neg (by omega), if_pos (by omega), List.append_nil]
      congr 1
      have hJ := T2 (by omega)
      have a := ht (k + 1)
      have b := ht 0
      refine mIn_one (by omega) (thd_lt a b hJ.symm).1 fun p hp => ?_
      rw [okM_iff (by omega)]
      constructor
      · rintro ⟨h1, h2⟩
        have e1 := h2 0 (by omega)
        have e2 := h2 (k + 1) (by omega)
        unfold thd; omega
      · rintro rfl
        refine ⟨fun i hi => by rw [T1 i hi]; exact hJ.symm, fun i hi => ?_⟩
        by_cases q : i = k + 1
        · rw [q]; unfold thd; omega
        · rw [T1 i (by omega)]; unfold thd; omega
    · have hmn : mIn t n (k + 1) 3 = [] := mIn_none (by omega) fun p hp h => by
        have h := (okM_iff (by omega)).mp h
        have a := h.1 0 (by omega)
        have b := h.1 J (by omega)
        have c1 := h.2 0 (by omega)
        have c2 := h.2 J (by omega)
        have c3 := h.2 (k + 1) (by omega)
        exact pig (ht 0) (ht J) (ht (k + 1)) hp (T2 (by omega)).symm a b c1 c2 c3
      rw [hmn, List.append_nil, if_pos (by omega), if_pos (by omega)]
def mCode (t0 : Nat) (hasJ : Bool) : List Nat := ([0, 1, 2].filter (· != t0)) ++ if hasJ then [3] else []
def okC (a b : Nat) (hasJ : Bool) (g j : Nat) : Bool := g != j && (g == a || (hasJ && g == b && j == a))
def fCode (a b : Nat) (hasJ : Bool) (s : Nat → Nat) : List Nat := [0, 1, 2].flatMap fun g => [0, 1, 2].flatMap fun j => if okC a b hasJ g j then [if g = a then s j else 3] else []
def codeChk : Bool := [0, 1, 2].all fun a => [0, 1, 2].all fun b => [true, false].all fun hasJ => [0, 1, 2].all fun s0 => [0, 1, 2].all fun s1 => [0, 1, 2].all fun s2 =>
  (hasJ && b == a) || s0 == s1 || s0 == s2 || s1 == s2 || (fCode a b hasJ (rk s0 s1 s2)).isPerm (mCode (rk s0 s1 s2 a) hasJ)
theorem codeChk_ok : codeChk = true := by decide +kernel
theorem code_perm {a b : Nat} {hasJ : Bool} {s0 s1 s2 : Nat} (ha : a < 3) (hb : b < 3) (hJ : hasJ = true → b ≠ a) (h0 : s0 < 3) (h1 : s1 < 3) (h2 : s2 < 3) (n01 : s0 ≠ s1) (n02 : s0 ≠ s2) (n12 : s1 ≠ s2) : (fCode a b hasJ (rk s0 s1 s2)).isPerm (mCode (rk s0 s1 s2 a) hasJ) = true := by
  have h := codeChk_ok
  unfold codeChk at h
  have h := List.all_eq_true.mp (List.all_eq_true.mp (List.all_eq_true.mp (List.all_eq_true.mp (List.all_eq_true.mp (List.all_eq_true.mp h a (in3 ha)) b (in3 hb)) hasJ (by cases hasJ <;> simp)) s0 (in3 h0)) s1 (in3 h1)) s2 (in3 h2)
  simp only [Bool.or_eq_true, Bool.and_eq_true, beq_iff_eq] at h
  rcases h with (((h | h) | h) | h) | h
  · exact absurd h.2 (hJ h.1)
  · exact absurd h n01
  · exact absurd h n02
  · exact absurd h n12
  · exact h
theorem mCode_len : ∀ t0, t0 < 3 → ∀ hasJ : Bool, 2 ≤ (mCode t0 hasJ).length ∧ (mCode t0 hasJ).length ≤ 3 := by decide
def el (t : Nat → Nat) (n J : Nat) (c : Nat) : List Int := if c < 3 then tow (upd t 0 c) n else tow (upd t J (thd (t J) (t 0))) n
theorem mIn0_code (ht : ∀ k, t k < 3) (h0 : 0 < n) : mIn t n 0 3 = ([0, 1, 2].filter (· != t 0)).map (el t n J) := by
  have h : ∀ p, p < 3 → mrow t n 0 p = if t 0 = p then [] else [el t n J p] := fun p hp => by
    have : okM t n 0 p = true ↔ t 0 ≠ p := by
      rw [okM_iff h0]
      exact ⟨fun h => h.2 0 (Nat.le_refl 0), fun h => ⟨fun i hi => by omega, fun i hi => by rw [show i = 0 by omega]; exact h⟩⟩
    by_cases e : t 0 = p
    · rw [if_pos e, mrow_no fun q => this.mp q e]
    · rw [if_neg e, mrow_yes (this.mpr e)]; unfold el; rw [if_pos hp]
  rw [mIn3, h 0 (by decide), h 1 (by decide), h 2 (by decide)]
  rcases three (ht 0) with e | e | e <;> rw [e] <;> simp
theorem mOut_code (ht : ∀ k, t k < 3) (h0 : 0 < n) (j0 : 0 < J) (jn : J ≤ n) (T1 : ∀ k, k < J → t k = t 0) (T2 : J < n → t J ≠ t 0) : mOut t n n = (mCode (t 0) (decide (J < n))).map (el t n J) := by
  rw [mOut_at ht j0 jn T1 T2 n h0 (Nat.le_refl n), mIn0_code (J := J) ht h0]
  unfold mCode
  rw [List.map_append]
  congr 1
  by_cases c : J < n
  · rw [if_pos c, decide_eq_true c]; rfl
  · rw [if_neg c, decide_eq_false c]; rfl
end
/-- the loop's lists -/
def fRow (f : Nat → Nat) (n J g j : Nat) : List (List Int) := if okB f n J g j = true then [tow (twr (aftF f J g j) n) n] else []
def gRow (f : Nat → Nat) (n J g j : Nat) : List (Nat × Nat) := if okB f n J g j = true then [(j, dsc f J g)] else []
def fIn (f : Nat → Nat) (n J g : Nat) : Nat → List (List Int)
  | 0 => []
  | j + 1 => fIn f n J g j ++ fRow f n J g j
def fOut (f : Nat → Nat) (n J : Nat) : Nat → List (List Int)
  | 0 => []
  | g + 1 => fOut f n J g ++ fIn f n J g 3
def gIn (f : Nat → Nat) (n J g : Nat) : Nat → List (Nat × Nat)
  | 0 => []
  | j + 1 => gIn f n J g j ++ gRow f n J g j
def gOut (f : Nat → Nat) (n J : Nat) : Nat → List (Nat × Nat)
  | 0 => []
  | g + 1 => gOut f n J g ++ gIn f n J g 3
section
variable {f : Nat → Nat} {t : Nat → Nat} {n J : Nat}
theorem fRow_code (hf : ∀ i, f i < 3) (hn : Rn f n J) (h0 : 0 < n) (ht : ∀ k, k < n → t k = twr f n k) {g j : Nat} (hg : g < 3) (hj : j < 3) :
    fRow f n J g j = (if okC (f 0) (f J) (decide (J < n)) g j then [if g = f 0 then rk (sg f n 0) (sg f n 1) (sg f n 2) j else 3] else []).map (el t n J) := by
  have e : okC (f 0) (f J) (decide (J < n)) g j = okB f n J g j := rfl
  rw [e]
  unfold fRow
  by_cases c : okB f n J g j = true
  · rw [if_pos c, if_pos c]
    obtain ⟨hne, q | ⟨e1, e2, e3, e4⟩⟩ := okB_cases hn c
    · rw [if_pos q]
      have s : rk (sg f n 0) (sg f n 1) (sg f n 2) j = sg f n j := by rcases three hj with rfl | rfl | rfl <;> rfl
      rw [s]
      show _ = [el t n J (sg f n j)]
      unfold el
      rw [if_pos (show sg f n j < 3 from qf_lt hj _)]
      congr 1
      refine tow_congr fun k hk => ?_
      rw [aft_zero h0 q k hk]
      unfold upd
      split
      · rfl
      · exact (ht k hk).symm
    · rw [if_neg e4]
      show _ = [el t n J 3]
      unfold el
      rw [if_neg (by decide)]
      congr 1
      refine tow_congr fun k hk => ?_
      rw [aft_swp hf hn e1 e2 e3 k hk, ht J e1, ht 0 h0]
      unfold upd
      split
      · rfl
      · exact (ht k hk).symm
  · rw [if_neg c, if_neg c]; rfl
theorem fOut_code (hf : ∀ i, f i < 3) (hn : Rn f n J) (h0 : 0 < n) (ht : ∀ k, k < n → t k = twr f n k) :
    fOut f n J 3 = (fCode (f 0) (f J) (decide (J < n)) (rk (sg f n 0) (sg f n 1) (sg f n 2))).map (el t n J) := by
  have h : ∀ g, g < 3 → fIn f n J g 3 = ([0, 1, 2].flatMap fun j => if okC (f 0) (f J) (decide (J < n)) g j then [if g = f 0 then rk (sg f n 0) (sg f n 1) (sg f n 2) j else 3] else []).map (el t n J) := fun g hg => by
    show ([] ++ fRow f n J g 0) ++ fRow f n J g 1 ++ fRow f n J g 2 = _
    rw [fRow_code hf hn h0 ht hg (by decide), fRow_code hf hn h0 ht hg (by decide), fRow_code hf hn h0 ht hg (by decide)]
    simp only [List.flatMap_cons, List.flatMap_nil, List.map_append, List.append_nil, List.nil_append, List.append_assoc]
  show ([] ++ fIn f n J 0 3) ++ fIn f n J 1 3 ++ fIn f n J 2 3 = _
  rw [h 0 (by decide), h 1 (by decide), h 2 (by decide)]
  unfold fCode
  simp only [List.flatMap_cons, List.flatMap_nil, List.map_append, List.append_nil, List.nil_append, List.append_assoc]
theorem found_perm (hf : ∀ i, f i < 3) (hn : Rn f n J) (h0 : 0 < n) (ht3 : ∀ k, t k < 3) (ht : ∀ k, k < n → t k = twr f n k) : (fOut f n J 3).Perm (mOut t n n) ∧ 2 ≤ (mOut t n n).length ∧ (mOut t n n).length ≤ 3 := by
  have tl := twr_low hf hn
  have hjn := hn.jn
  have hj0 := hn.j0
  rw [fOut_code hf hn h0 ht, mOut_code (J := J) ht3 h0 hn.j0 hn.jn (fun k hk => by rw [ht k (by omega), ht 0 h0]; exact tl.1 k hk) (fun h => by rw [ht J h, ht 0 h0]; exact tl.2 h)]
  have t0 : t 0 = rk (sg f n 0) (sg f n 1) (sg f n 2) (f 0) := by
    rw [ht 0 h0]
    show sg f n (f 0) = _
    rcases three (hf 0) with e | e | e <;> rw [e] <;> rfl
  have inj : ∀ a b, a < 3 → b < 3 → a ≠ b → sg f n a ≠ sg f n b := fun a b ha hb h e => h (qf_inj ha hb _ e)
  have p := code_perm (a := f 0) (b := f J) (hasJ := decide (J < n)) (s0 := sg f n 0) (s1 := sg f n 1) (s2 := sg f n 2) (hf 0) (hf J) (fun h => hn.out (of_decide_eq_true h)) (qf_lt (by decide) _) (qf_lt (by decide) _) (qf_lt (by decide) _)
    (inj 0 1 (by decide) (by decide) (by decide)) (inj 0 2 (by decide) (by decide) (by decide)) (inj 1 2 (by decide) (by decide) (by decide))
  have ml := mCode_len (t 0) (ht3 0) (decide (J < n))
  rw [List.length_map]
  refine ⟨?_, ml⟩
  rw [t0]
  exact (List.isPerm_iff.mp p).map _
theorem tow_ok {s : Nat → Nat} (hs : ∀ k, k < n → s k < 3) : RowOk n (tow s n) := by
  refine ⟨tow_len s n, fun j => ?_⟩
  by_cases h : j < n
  · have : (tow s n).getD j 0 = ((s j : Nat) : Int) := by simp [tow, h]
    rw [this]; have := hs j h; omega
  · have : (tow s n).getD j 0 = 0 := by simp [tow, h]
    rw [this]; omega
theorem fOut_ok (hf : ∀ i, f i < 3) : ∀ r ∈ fOut f n J 3, RowOk n r := by
  have h1 : ∀ g j, g < 3 → j < 3 → ∀ r ∈ fRow f n J g j, RowOk n r := fun g j hg hj r hr => by
    unfold fRow at hr
    split at hr
    · rw [List.mem_singleton.mp hr]
      exact tow_ok fun k _ => twr_lt (aft_lt hf hg hj) n k
    · cases hr
  have h2 : ∀ g, g < 3 → ∀ r ∈ fIn f n J g 3, RowOk n r := fun g hg r hr => by
    have : fIn f n J g 3 = ([] ++ fRow f n J g 0) ++ fRow f n J g 1 ++ fRow f n J g 2 := rfl
    rw [this, List.nil_append, List.mem_append, List.mem_append] at hr
    rcases hr with (hr | hr) | hr
    · exact h1 g 0 hg (by decide) r hr
    · exact h1 g 1 hg (by decide) r hr
    · exact h1 g 2 hg (by decide) r hr
  intro r hr
  have : fOut f n J 3 = ([] ++ fIn f n J 0 3) ++ fIn f n J 1 3 ++ fIn f n J 2 3 := rfl
  rw [this, List.nil_append, List.mem_append, List.mem_append] at hr
  rcases hr with (hr | hr) | hr
  · exact h2 0 (by decide) r hr
  · exact h2 1 (by decide) r hr
  · exact h2 2 (by decide) r hr
theorem fRow_len (g j : Nat) : (fRow f n J g j).length ≤ 1 := by unfold fRow; split <;> simp
theorem gRow_len (g j : Nat) : (gRow f n J g j).length ≤ 1 := by unfold gRow; split <;> simp
theorem fIn_len (g : Nat) : ∀ j, (fIn f n J g j).length ≤ j ∧ (gIn f n J g j).length ≤ j
  | 0 => ⟨Nat.le_refl _, Nat.le_refl _⟩
  | j + 1 => by
    have ih := fIn_len g j
    have a := fRow_len (f := f) (n := n) (J := J) g j
    have b := gRow_len (f := f) (n := n) (J := J) g j
    show (fIn f n J g j ++ fRow f n J g j).length ≤ _ ∧ (gIn f n J g j ++ gRow f n J g j).length ≤ _
    rw [List.length_append, List.length_append]; omega
theorem fOut_len : ∀ g, (fOut f n J g).length ≤ 3 * g ∧ (gOut f n J g).length ≤ 3 * g
  | 0 => ⟨Nat.le_refl _, Nat.le_refl _⟩
  | g + 1 => by
    have ih := fOut_len g
    have a := fIn_len (f := f) (n := n) (J := J) g 3
    show (fOut f n J g ++ fIn f n J g 3).length ≤ _ ∧ (gOut f n J g ++ gIn f n J g 3).length ≤ _
    rw [List.length_append, List.length_append]; omega
/-- the gains of a goal -/
def dueN (f : Nat → Nat) (n J goal : Nat) : List Nat := if goal = f 0 then (if J < n then [J] else []) else [0]
def gC (a b : Nat) (hasJ : Bool) : List (Nat × Nat) := [0, 1, 2].flatMap fun g => [0, 1, 2].flatMap fun j => if okC a b hasJ g j then [(j, if g = a then 0 else 1)] else []
def dC (a : Nat) (hasJ : Bool) (goal : Nat) : List Nat := if goal = a then (if hasJ then [1] else []) else [0]
def gainChk : Bool := [0, 1, 2].all fun a => [0, 1, 2].all fun b => [true, false].all fun hasJ => [0, 1, 2].all fun goal => (hasJ && b == a) || ((gC a b hasJ).filter fun q => q.1 == goal).map (·.2) == dC a hasJ goal
theorem gainChk_ok : gainChk = true := by decide +kernel
theorem gain_code {a b goal : Nat} {hasJ : Bool} (ha : a < 3) (hb : b < 3) (hg : goal < 3) (hJ : hasJ = true → b ≠ a) : ((gC a b hasJ).filter fun q => q.1 == goal).map (·.2) = dC a hasJ goal := by
  have h := gainChk_ok
  unfold gainChk at h
  have h := List.all_eq_true.mp (List.all_eq_true.mp (List.all_eq_true.mp (List.all_eq_true.mp h a (in3 ha)) b (in3 hb)) hasJ (by cases hasJ <;> simp)) goal (in3 hg)
  rw [Bool.or_eq_true, Bool.and_eq_true, beq_iff_eq, beq_iff_eq] at h
  rcases h with h | h
  · exact absurd h.2 (hJ h.1)
  · exact h
def eG (J : Nat) (q : Nat × Nat) : Nat × Nat := (q.1, if q.2 = 0 then 0 else J)
theorem gRow_code (g j : Nat) : gRow f n J g j = (if okC (f 0) (f J) (decide (J < n)) g j then [(j, if g = f 0 then 0 else 1)] else []).map (eG J) := by
  have e : okC (f 0) (f J) (decide (J < n)) g j = okB f n J g j := rfl
  rw [e]
  unfold gRow dsc
  by_cases c : okB f n J g j = true
  · rw [if_pos c, if_pos c]
    by_cases q : g = f 0
    · rw [if_pos q, if_pos q]; rfl
    · rw [if_neg q, if_neg q]; rfl
  · rw [if_neg c, if_neg c]; rfl
theorem gOut_code : gOut f n J 3 = (gC (f 0) (f J) (decide (J < n))).map (eG J) := by
  have h : ∀ g, gIn f n J g 3 = ([0, 1, 2].flatMap fun j => if okC (f 0) (f J) (decide (J < n)) g j then [(j, if g = f 0 then 0 else 1)] else []).map (eG J) := fun g => by
    show ([] ++ gRow f n J g 0) ++ gRow f n J g 1 ++ gRow f n J g 2 = _
    rw [gRow_code, gRow_code, gRow_code]
    simp only [List.flatMap_cons, List.flatMap_nil, List.map_append, List.append_nil, List.nil_append, List.append_assoc]
  show ([] ++ gIn f n J 0 3) ++ gIn f n J 1 3 ++ gIn f n J 2 3 = _
  rw [h 0, h 1, h 2]
  unfold gC
  simp only [List.flatMap_cons, List.flatMap_nil, List.map_append, List.append_nil, List.nil_append, List.append_assoc]
theorem gains_due (hf : ∀ i, f i < 3) (hn : Rn f n J) {goal : Nat} (hg : goal < 3) : ((gOut f n J 3).filter fun q => q.1 == goal).map (·.2) = dueN f n J goal := by
  have k := gain_code (hf 0) (hf J) hg (hasJ := decide (J < n)) fun h => hn.out (of_decide_eq_true h)
  rw [gOut_code, List.filter_map, List.map_map]
  have e : ((fun q : Nat × Nat => q.1 == goal) ∘ eG J) = fun q => q.1 == goal := rfl
  have e2 : ((fun q : Nat × Nat => q.2) ∘ eG J) = (fun c : Nat => if c = 0 then 0 else J) ∘ fun q : Nat × Nat => q.2 := rfl
  rw [e, e2, ← List.map_map, k]
  unfold dC dueN
  by_cases c : goal = f 0
  · rw [if_pos c, if_pos c]
    by_cases d : J < n
    · rw [decide_eq_true d, if_pos d]; rfl
    · rw [decide_eq_false d, if_neg d]; rfl
  · rw [if_neg c, if_neg c]; rfl
end
theorem numsN (l : List Nat) : l.map emN = nums (l.map fun (k : Nat) => (k : Int)) := by unfold nums emN; rw [List.map_map]; rfl
def offN (t : Nat → Nat) (g n : Nat) : List Nat := (List.range n).filter fun k => ((t k : Nat) : Int) != ((g : Nat) : Int)
theorem ne_cast (a b : Nat) : (((a : Nat) : Int) != ((b : Nat) : Int)) = (a != b) := by
  rw [Bool.eq_iff_iff]; simp; omega
theorem off_grt (t : Nat → Nat) (g : Nat) : ∀ n, (grt t g n = -1 ∧ offN t g n = []) ∨ ∃ (m : Nat) (pre : List Nat), grt t g n = m ∧ m < n ∧ offN t g n = pre ++ [m]
  | 0 => .inl ⟨rfl, rfl⟩
  | n + 1 => by
    have e : offN t g (n + 1) = offN t g n ++ (if t n = g then [] else [n]) := by
      unfold offN
      rw [List.range_succ, List.filter_append]
      congr 1
      by_cases c : t n = g
      · rw [if_pos c]; simp [c]
      · rw [if_neg c]; simp; omega
    rw [e]
    unfold grt
    by_cases c : t n = g
    · rw [if_pos c, if_pos c, List.append_nil]
      rcases off_grt t g n with h | ⟨m, pre, h1, h2, h3⟩
      · exact .inl h
      · exact .inr ⟨m, pre, h1, by omega, h3⟩
    · rw [if_neg c, if_neg c]
      exact .inr ⟨n, offN t g n, rfl, by omega, rfl⟩
theorem once_no {t : Nat → Nat} {g n : Nat} (h : grt t g n = -1) : onceB t g n = false := by unfold onceB; rw [h]; rfl
theorem once_yes {t : Nat → Nat} (ht : ∀ k, t k < 3) {g n m : Nat} (hg : g < 3) (hm : t m ≠ g) (h : grt t g n = m) : onceB t g n = ((List.range m).filter fun k => ((t k : Nat) : Int) != (3 - (g : Int) - ((t m : Nat) : Int))).isEmpty := by
  unfold onceB
  rw [h, Int.toNat_natCast, show decide ((0 : Int) ≤ (m : Int)) = true by simp, Bool.true_and]
  obtain ⟨q1, q2⟩ := thd_lt hg (ht m) hm
  rw [← q2, Bool.eq_iff_iff, List.all_eq_true, List.isEmpty_iff, List.filter_eq_nil_iff]
  simp only [ne_cast, beq_iff_eq, bne_iff_ne, ne_eq, Decidable.not_not]
theorem grt_ne (t : Nat → Nat) (g : Nat) : ∀ n (m : Nat), grt t g n = m → t m ≠ g
  | 0, m, h => by unfold grt at h; omega
  | n + 1, m, h => by
    unfold grt at h
    by_cases c : t n = g
    · rw [if_pos c] at h; exact grt_ne t g n m h
    · rw [if_neg c] at h
      have : m = n := by omega
      rw [this]; exact c
theorem filter_one {n d : Nat} (hd : d < n) {c : Nat → Bool} (h : ∀ k, k < n → (c k = true ↔ k = d)) : (List.range n).filter c = [d] := by
  have e : (List.range n).filter c = (List.range n).filter (· == d) := List.filter_congr fun k hk => by
    rw [Bool.eq_iff_iff, h k (List.mem_range.mp hk)]; simp
  rw [e]
  clear e h
  induction n with
  | zero => omega
  | succ n ih =>
    rw [List.range_succ, List.filter_append]
    by_cases q : d = n
    · subst q
      have : (List.range d).filter (· == d) = [] := by
        rw [List.filter_eq_nil_iff]; intro a ha; have := List.mem_range.mp ha; simp; omega
      rw [this]; simp
    · rw [ih (by omega)]
      have : (n == d) = false := by simp; omega
      simp [this]
theorem due_eq {t : Nat → Nat} (ht : ∀ k, t k < 3) {n J : Nat} (hn : Rn (fpos t n) n J) (h0 : 0 < n) {g : Nat} (hg : g < 3) :
    (dueN (fpos t n) n J g = [] ∧ way t n g = 0) ∨ ∃ d : Nat, dueN (fpos t n) n J g = [d] ∧ 0 < way t n g ∧ hb (way t n g - Builtin.bitAnd (way t n g) (way t n g - 1)) = d := by
  have hw : way t n g = 2 ^ n - 1 - dsum (fpos t n) n g := by rw [way_eq ht n g hg, own_dsum ht 0 n hg]; omega
  rw [hw]
  unfold dueN
  have pw : ∀ J : Nat, hb (2 ^ J) = J := fun J => hb_eq (Int.le_refl _) (by rw [Int.pow_succ]; have := p2 J; omega)
  by_cases e : g = fpos t n 0
  · rw [if_pos e]
    by_cases c : J < n
    · rw [if_pos c]
      obtain ⟨q1, q2⟩ := low_way (x := g) J n c (f := fpos t n) (fun i hi => by rw [hn.low i hi, e]) (by rw [e]; exact hn.out c)
      exact .inr ⟨J, rfl, q1, by rw [q2, pw]⟩
    · rw [if_neg c]
      have : dsum (fpos t n) n g = 2 ^ n - 1 := by
        rw [dsum_const (y := g) fun i hi => by rw [hn.low i (by have := hn.jn; omega), e], if_pos rfl]
      exact .inl ⟨rfl, by omega⟩
  · rw [if_neg e]
    obtain ⟨q1, q2⟩ := low_way (x := g) 0 n h0 (f := fpos t n) (fun i hi => by omega) (fun h => e h.symm)
    exact .inr ⟨0, rfl, q1, by rw [q2, pw]⟩
/-- the tower of a script -/
def drw (ns : List Int) : List Int := ns.take 9 ++ [2, 0, 1, 1].drop (ns.take 9).length
def twS (ns : List Int) (k : Nat) : Nat := (((drw ns).getD k 0).fmod 3).toNat
theorem drw_len (ns : List Int) : 4 ≤ (drw ns).length ∧ (drw ns).length ≤ 9 := by
  unfold drw
  simp only [List.length_append, List.length_take, List.length_drop, List.length_cons, List.length_nil]
  omega
theorem twS_lt (ns : List Int) (k : Nat) : twS ns k < 3 := by
  unfold twS
  rw [Int.fmod_eq_emod_of_nonneg _ (by decide)]; omega
theorem twS_tow (ns : List Int) : tow (twS ns) (drw ns).length = (drw ns).map fun x => x.fmod 3 := by
  refine List.ext_getElem (by rw [tow_len, List.length_map]) fun i h1 h2 => ?_
  rw [tow_len] at h1
  have e : (drw ns).getD i 0 = (drw ns)[i] := by simp [h1]
  simp only [tow, List.getElem_map, List.getElem_range]
  unfold twS
  rw [e, Int.fmod_eq_emod_of_nonneg _ (by decide)]; omega
theorem at3 (p : Nat → Int) {a : Nat} (h : a < 3) : ([D.int (p 0), .int (p 1), .int (p 2)])[((a : Nat) : Int).toNat]? = some (.int (p a)) := by
  rcases three h with rfl | rfl | rfl <;> rfl
local macro_rules | `(tactic| fail "ctr") => `(tactic| first
  | ((with_reducible show Ctr _ _ (Str.ofString "_high_bit") _ _); exact ctr_high_bit (by assumption))
  | ((with_reducible show Ctr _ _ (Str.ofString "_is_single_bit") _ _); exact ctr_single_bit (by assumption))
  | with_reducible assumption)
local macro_rules | `(tactic| fail "sub") => `(tactic| ((with_reducible show (_ : Option D) = some _); first | exact tow_at (by omega) | exact at3 _ (by omega) | rfl))

theorem flat3 (a b c : Int) : Flat (.list [.int a, .int b, .int c]) := flat_nums [a, b, c]
theorem flatI (n : Int) : Flat (.int n) := ⟨rfl, by simp only [toPy, PyData.depth]; omega⟩
theorem IsT.ne {k : Nat} {env : Env} {X : List Addr} {l : Vals} {a b : PySem.Expr} {pos : Pos} {d : D} (h1 : Ev C k env X l a d) (h2 : Ev C k env X l b d) (hf : Flat d) (hm : behindInMarks .NotEq b = false) : IsT C k env X l (.Compare a [.NotEq] [b] pos) false :=
  IsT.cmp h1 h2 (CmpOk.neSame hf) hm
def emPs (gs : List (Nat × Nat)) : List D := gs.map emP
def ow (fs : List (List Int)) (gs : List (Nat × Nat)) : Own := [(Str.ofString "gains", emPs gs), (Str.ofString "found", rows fs)]
theorem ow_ne {x : Str} (h1 : Str.ofString "gains" ≠ x) (h2 : Str.ofString "found" ≠ x) (fs : List (List Int)) (gs : List (Nat × Nat)) : ∀ p ∈ ow fs gs, p.1 ≠ x := by
  intro p hp
  cases hp with
  | head => exact h1
  | tail _ hp => cases hp with
    | head => exact h2
    | tail _ hp => cases hp
theorem ow_ne2 {x y : Str} (h1 : Str.ofString "gains" ≠ x) (h2 : Str.ofString "found" ≠ x) (h3 : Str.ofString "gains" ≠ y) (h4 : Str.ofString "found" ≠ y) (fs : List (List Int)) (gs : List (Nat × Nat)) : ∀ p ∈ ow fs gs, p.1 ≠ x ∧ p.1 ≠ y := fun p hp => ⟨ow_ne h1 h2 fs gs p hp, ow_ne h3 h4 fs gs p hp⟩
/-- what the loop is given -/
structure Ld (t : Nat → Nat) (n : Nat) (w : Int) (J : Nat) : Prop where
  tw : Tw t n w
  n0 : 0 < n
  rn : Rn (fpos t n) n J
def ownI (t : Nat → Nat) (n : Nat) : Nat → Int := hpaint t 0 n
theorem ownI_eq {t : Nat → Nat} (ht : ∀ k, t k < 3) {n a : Nat} (ha : a < 3) : ownI t n a = dsum (fpos t n) n a := by unfold ownI; rw [own_dsum ht 0 n ha]; omega
def ifBody : Stmt → List Stmt
  | .If _ b _ _ => b
  | _ => []
/-- a carry that is a move -/
theorem carry_val {t : Nat → Nat} {n J : Nat} {w : Int} (h : Ld t n w J) {g j : Nat} (hg : g < 3) (hj : j < 3) (ok : okB (fpos t n) n J g j = true) {a : Nat} (ha : a < 3) :
    hpaint t w n a + (if ((a : Int) == (j : Int)) = true then 1 else 0) - (if ((a : Int) == (g : Int)) = true then 1 else 0) = hpaint (twr (aftF (fpos t n) J g j) n) w n a := by
  rw [twr_paint (aft_lt (fpos_lt h.tw.t3 n) hg hj) w n ha, aft_sum h.rn h.n0 ok a, own_dsum h.tw.t3 w n ha]
  have e1 : (((a : Int) == (j : Int)) = true) ↔ j = a := by rw [beq_iff_eq]; omega
  have e2 : (((a : Int) == (g : Int)) = true) ↔ g = a := by rw [beq_iff_eq]; omega
  simp only [e1, e2]
  omega
theorem carry_tw {t : Nat → Nat} {n J : Nat} {w : Int} (h : Ld t n w J) {g j : Nat} (hg : g < 3) (hj : j < 3) : Tw (twr (aftF (fpos t n) J g j) n) n w := ⟨h.tw.n9, fun k => twr_lt (aft_lt (fpos_lt h.tw.t3 n) hg hj) n k, h.tw.w0, h.tw.w1⟩
theorem carry_disc {t : Nat → Nat} {n J : Nat} {w : Int} (h : Ld t n w J) {g j : Nat} (hg : g < 3) (hj : j < 3) (ok : okB (fpos t n) n J g j = true) : dsc (fpos t n) J g < n ∧ ∀ k, k < n → (twr (aftF (fpos t n) J g j) n k ≠ t k ↔ k = dsc (fpos t n) J g) := by
  have hf := fpos_lt h.tw.t3 n
  have tk : ∀ k, k < n → t k = twr (fpos t n) n k := fun k hk => (twr_fpos h.tw.t3 hk).symm
  obtain ⟨hne, e | ⟨e1, e2, e3, e4⟩⟩ := okB_cases h.rn ok
  · unfold dsc
    rw [if_pos e]
    refine ⟨h.n0, fun k hk => ?_⟩
    rw [aft_zero h.n0 e k hk, tk k hk]
    unfold upd
    by_cases c : k = 0
    · subst c
      rw [if_pos rfl]
      refine ⟨fun _ => rfl, fun _ q => ?_⟩
      have : sg (fpos t n) n j = sg (fpos t n) n (fpos t n 0) := q
      exact hne (e.trans (qf_inj hj (hf 0) _ this).symm)
    · rw [if_neg c]; exact ⟨fun q => absurd rfl q, fun q => absurd q c⟩
  · unfold dsc
    rw [if_neg e4]
    refine ⟨e1, fun k hk => ?_⟩
    rw [aft_swp hf h.rn e1 e2 e3 k hk, tk k hk]
    have tl := (twr_low hf h.rn).2 e1
    have a := twr_lt hf n J
    have b := twr_lt hf n 0
    unfold upd
    by_cases c : k = J
    · subst c
      rw [if_pos rfl]
      exact ⟨fun _ => rfl, fun _ q => by unfold thd at q; omega⟩
    · rw [if_neg c]; exact ⟨fun q => absurd rfl q, fun q => absurd q c⟩
theorem carry_test {t : Nat → Nat} {n J : Nat} {w : Int} (h : Ld t n w J) {g j : Nat} (hg : g < 3) (hj : j < 3) (hne : g ≠ j) (hp : 0 < ownI t n g) :
    ((Builtin.Int.intBits (Builtin.bitXor (Builtin.bitXor (ownI t n g - 1) (ownI t n j + 1)) (ownI t n (3 - g - j)) + 1) : Int) - 1 == (n : Int)) = okB (fpos t n) n J g j := by
  have z3 : 3 - g - j < 3 := by omega
  have := carry_iff (fpos_lt h.tw.t3 n) h.rn h.n0 hg hj hne (by rw [← ownI_eq h.tw.t3 hg]; exact hp)
  rw [← ownI_eq h.tw.t3 hg, ← ownI_eq h.tw.t3 hj, ← ownI_eq h.tw.t3 z3] at this
  rw [Bool.eq_iff_iff, beq_iff_eq]
  exact this
set_option maxHeartbeats 4000000 in
/-- what is done of a carry that is a move -/
theorem carry_body (h0 : Ctx C P) {t : Nat → Nat} {n J : Nat} {w : Int} (h : Ld t n w J) {env : Env} (fe : FEnv env (recAt P 17).scope) {g j : Nat} (hg : g < 3) (hj : j < 3) (ok : okB (fpos t n) n J g j = true) {fs : List (List Int)} {gs : List (Nat × Nat)} (hfs : fs.length ≤ 100) (hgs : gs.length ≤ 100) :
    Exs C 4 env [(Str.ofString "more", .int (ownI t n j + 1)), (Str.ofString "less", .int (ownI t n g - 1)), (Str.ofString "taker", .int ((j : Nat) : Int)), (Str.ofString "giver", .int ((g : Nat) : Int)), (Str.ofString "tower", .list (nums (tow t n))), (Str.ofString "size", .int ((n : Nat) : Int)), (Str.ofString "pale", .int w), (Str.ofString "scale", .int ((2 ^ (n + 1) : Nat) : Int)), (Str.ofString "colour", tri (hpaint t w n)), (Str.ofString "own", tri (ownI t n)), (Str.ofString "ways", tri (way t n))] (ow fs gs) (ifBody ((ifBody ((forBody ((forBody ((recAt P 17).body.getD 13 (.Pass ⟨0, 0, 0, 0⟩))).getD 0 (.Pass ⟨0, 0, 0, 0⟩))).getD 0 (.Pass ⟨0, 0, 0, 0⟩))).getD 2 (.Pass ⟨0, 0, 0, 0⟩)))
      [(Str.ofString "giver", .int ((g : Nat) : Int)), (Str.ofString "tower", .list (nums (tow t n))), (Str.ofString "size", .int ((n : Nat) : Int)), (Str.ofString "pale", .int w), (Str.ofString "scale", .int ((2 ^ (n + 1) : Nat) : Int)), (Str.ofString "colour", tri (hpaint t w n)), (Str.ofString "own", tri (ownI t n)), (Str.ofString "ways", tri (way t n))] (ow (fs ++ [tow (twr (aftF (fpos t n) J g j) n) n]) (gs ++ [(j, dsc (fpos t n) J g)])) := by
  have hn9 := h.tw.n9
  obtain ⟨dp, dh⟩ := own_pos h.rn h.n0 ok
  rw [← ownI_eq h.tw.t3 hg] at dp dh
  obtain ⟨dl, dk⟩ := carry_disc h hg hj ok
  have CR := ctr_hread h0 (carry_tw h hg hj)
  have cv := fun a ha => carry_val h hg hj ok (a := a) ha
  have one := filter_one dl (c := fun k => (((twr (aftF (fpos t n) J g j) n) k : Nat) : Int) != ((t k : Nat) : Int)) fun k hk => by rw [ne_cast]; simp; exact dk k hk
  generalize hs : twr (aftF (fpos t n) J g j) n = s at *
  generalize hd : dsc (fpos t n) J g = dd at *
  unfold tri at CR
  unfold tri
  change Exs _ _ _ _ _ (_ :: _) _ _
  refine Exs.cons (Ex.assign (d := .int (dd : Int)) (fun X => Ev.cast (by fail "evs") (by rw [← dh]; rfl)) (sto_fun fe (by decide +kernel)) (ow_ne (by decide +kernel) (by decide +kernel) _ _) (by with_unfolding_all rfl)) ?_
  refine Exs.cons (Ex.comp3 (e0 := hpaint s w n 0) (e1 := hpaint s w n 1) (e2 := hpaint s w n 2) (lc := [(Str.ofString "colour", .list [.int (hpaint t w n 0), .int (hpaint t w n 1), .int (hpaint t w n 2)]), (Str.ofString "giver", .int ((g : Nat) : Int)), (Str.ofString "taker", .int ((j : Nat) : Int))]) fe (fun X => ItR.range1 h0.range (gk_fun fe (by decide +kernel)) (Ev.cast (d := .int 3) Ev.int rfl) (by decide) (by decide +kernel) (by with_unfolding_all rfl)) (by decide +kernel) (by with_unfolding_all rfl) (by decide +kernel) (by decide +kernel) (by decide +kernel) (Caps.cons (by fail "has") (by decide +kernel) (by decide +kernel) (Caps.cons (by fail "has") (by decide +kernel) (by decide +kernel) (Caps.cons (by fail "has") (by decide +kernel) (by decide +kernel) Caps.nil))) (by intro x; with_unfolding_all rfl) (sto_fun fe (by decide +kernel)) (ow_ne (by decide +kernel) (by decide +kernel) _ _) ?_ ?_ ?_) ?_
  · intro X env' ce
    refine Ev.cast (d := .int (hpaint t w n 0 + (if (((0 : Int)) == (j : Int)) = true then 1 else 0) - (if (((0 : Int)) == (g : Int)) = true then 1 else 0))) ?_ (by rw [← cv 0 (by decide)]; rfl)
    fail "evs"
  · intro X env' ce
    refine Ev.cast (d := .int (hpaint t w n 1 + (if (((1 : Int)) == (j : Int)) = true then 1 else 0) - (if (((1 : Int)) == (g : Int)) = true then 1 else 0))) ?_ (by rw [← cv 1 (by decide)]; rfl)
    fail "evs"
  · intro X env' ce
    refine Ev.cast (d := .int (hpaint t w n 2 + (if (((2 : Int)) == (j : Int)) = true then 1 else 0) - (if (((2 : Int)) == (g : Int)) = true then 1 else 0))) ?_ (by rw [← cv 2 (by decide)]; rfl)
    fail "evs"
  refine Exs.cons (Ex.tup2 (d1 := .list (nums (tow s n))) (d2 := .list [.int w, .int w, .int w]) (fun X => (by fail "evs")) (sto_fun fe (by decide +kernel)) (sto_fun fe (by decide +kernel)) (ow_ne2 (by decide +kernel) (by decide +kernel) (by decide +kernel) (by decide +kernel) _ _) (by with_unfolding_all rfl) (by with_unfolding_all rfl)) ?_
  refine Exs.cons (Ex.ifF' (c := false) (fun X => IsT.ne (d := .list [.int w, .int w, .int w]) (by fail "evs") (by fail "evs") (flat3 _ _ _) (by with_unfolding_all rfl)) rfl Exs.nil) ?_
  refine Exs.cons (Ex.ifF' (c := false) (fun X => IsT.ne (d := .list (nums [(dd : Int)])) (Ev.cast (Ev.compM (em := emN) (as := List.range n) (lc := [(Str.ofString "after", .list (nums (tow s n))), (Str.ofString "tower", .list (nums (tow t n)))]) deN (fun k => ((s k : Nat) : Int) != ((t k : Nat) : Int)) emN deN_emN fe (It.rangeN (ItR.range1 h0.range (gk_fun fe (by decide +kernel)) (by fail "evs") (by omega) (by decide +kernel) (by with_unfolding_all rfl))) (by decide +kernel) (by with_unfolding_all rfl) (by decide +kernel) (by decide +kernel) (by decide +kernel) (Caps.cons (by fail "has") (by decide +kernel) (by decide +kernel) (Caps.cons (by fail "has") (by decide +kernel) (by decide +kernel) Caps.nil)) (by rw [List.length_range]; omega) (fun a => rfl) ?_ (by intro x; with_unfolding_all rfl)) (by rw [one]; rfl)) (Ev.cast (d := .list [.int (dd : Int)]) (by fail "evs") rfl) (flat_nums _) (by with_unfolding_all rfl)) rfl Exs.nil) ?_
  · intro env' k hk ce
    have hk := List.mem_range.mp hk
    unfold emN
    refine ⟨?_, fun _ => ?_⟩
    · show IsT _ _ _ _ _ _ _
      exact IsT.cast (by fail "evs") rfl
    · fail "evs"
  refine Exs.cons (Ex.append (d := .list (nums (tow s n))) (Upd.tail Upd.head) (fun X => (by fail "evs")) (by intro q hq; cases hq with | head => (show (emPs gs).length ≤ 1000); unfold emPs; rw [List.length_map]; omega | tail _ h => cases h with | head => (show (rows fs).length ≤ 1000); unfold rows; rw [List.length_map]; omega | tail _ h => cases h) (by decide) (by with_unfolding_all rfl) (by decide +kernel)) ?_
  refine Exs.cons (Ex.append (d := emP (j, dd)) Upd.head (fun X => (by unfold emP; fail "evs")) (by intro q hq; cases hq with | head => (show (emPs gs).length ≤ 1000); unfold emPs; rw [List.length_map]; omega | tail _ h => cases h with | head => (show (rows fs ++ _).length ≤ 1000); unfold rows; rw [List.length_append, List.length_map]; simp only [List.length_cons, List.length_nil]; omega | tail _ h => cases h) (by decide) (by with_unfolding_all rfl) (by decide +kernel)) ?_
  have e1 : rows fs ++ [.list (nums (tow s n))] = rows (fs ++ [tow s n]) := by rw [← rows_app]; rfl
  have e2 : emPs gs ++ [emP (j, dd)] = emPs (gs ++ [(j, dd)]) := by unfold emPs; rw [List.map_append]; rfl
  rw [e1, e2]
  exact Exs.less Exs.nil (Fewer.cons (by fail "has") (Fewer.cons (by fail "has") (Fewer.cons (by fail "has") (Fewer.cons (by fail "has") (Fewer.cons (by fail "has") (Fewer.cons (by fail "has") (Fewer.cons (by fail "has") (Fewer.cons (by fail "has") Fewer.nil))))))))
theorem at3s (p : Nat → Int) {g j : Nat} (hg : g < 3) (hj : j < 3) (hne : g ≠ j) : ([D.int (p 0), .int (p 1), .int (p 2)])[((3 : Int) - ((g : Nat) : Int) - ((j : Nat) : Int)).toNat]? = some (.int (p (3 - g - j))) := by
  have e : ((3 : Int) - (g : Int) - (j : Int)) = ((3 - g - j : Nat) : Int) := by omega
  rw [e]; exact at3 p (by omega)
local macro_rules | `(tactic| fail "ctr") => `(tactic| first
  | ((with_reducible show Ctr _ _ (Str.ofString "_high_bit") _ _); exact ctr_high_bit (by assumption))
  | ((with_reducible show Ctr _ _ (Str.ofString "_is_single_bit") _ _); exact ctr_single_bit (by assumption))
  | with_reducible assumption)
local macro_rules | `(tactic| fail "sub") => `(tactic| ((with_reducible show (_ : Option D) = some _); first | exact tow_at (by omega) | exact at3 _ (by omega) | rfl))
local macro_rules | `(tactic| fail "sub") => `(tactic| ((with_reducible show (_ : Option D) = some _); exact at3s _ (by assumption) (by assumption) (by assumption)))
theorem okB_self (f : Nat → Nat) (n J g : Nat) : okB f n J g g = false := by unfold okB; simp
theorem row_no {f : Nat → Nat} {n J g j : Nat} (h : okB f n J g j = false) : fRow f n J g j = [] ∧ gRow f n J g j = [] := by unfold fRow gRow; rw [h]; exact ⟨rfl, rfl⟩
theorem row_yes {f : Nat → Nat} {n J g j : Nat} (h : okB f n J g j = true) : fRow f n J g j = [tow (twr (aftF f J g j) n) n] ∧ gRow f n J g j = [(j, dsc f J g)] := by unfold fRow gRow; rw [h]; exact ⟨rfl, rfl⟩
set_option maxHeartbeats 4000000 in
theorem taker_body (h0 : Ctx C P) {t : Nat → Nat} {n J : Nat} {w : Int} (h : Ld t n w J) {env : Env} (fe : FEnv env (recAt P 17).scope) {g j : Nat} (hg : g < 3) (hj : j < 3) {fs : List (List Int)} {gs : List (Nat × Nat)} (hfs : fs.length ≤ 100) (hgs : gs.length ≤ 100) :
    Exs C 4 env [(Str.ofString "taker", .int ((j : Nat) : Int)), (Str.ofString "giver", .int ((g : Nat) : Int)), (Str.ofString "tower", .list (nums (tow t n))), (Str.ofString "size", .int ((n : Nat) : Int)), (Str.ofString "pale", .int w), (Str.ofString "scale", .int ((2 ^ (n + 1) : Nat) : Int)), (Str.ofString "colour", tri (hpaint t w n)), (Str.ofString "own", tri (ownI t n)), (Str.ofString "ways", tri (way t n))] (ow fs gs) (forBody ((forBody ((recAt P 17).body.getD 13 (.Pass ⟨0, 0, 0, 0⟩))).getD 0 (.Pass ⟨0, 0, 0, 0⟩)))
      [(Str.ofString "giver", .int ((g : Nat) : Int)), (Str.ofString "tower", .list (nums (tow t n))), (Str.ofString "size", .int ((n : Nat) : Int)), (Str.ofString "pale", .int w), (Str.ofString "scale", .int ((2 ^ (n + 1) : Nat) : Int)), (Str.ofString "colour", tri (hpaint t w n)), (Str.ofString "own", tri (ownI t n)), (Str.ofString "ways", tri (way t n))] (ow (fs ++ fRow (fpos t n) n J g j) (gs ++ gRow (fpos t n) n J g j)) := by
  have hn9 := h.tw.n9
  by_cases hne : g = j
  · subst hne
    obtain ⟨e1, e2⟩ := row_no (okB_self (fpos t n) n J g)
    rw [e1, e2, List.append_nil, List.append_nil]
    change Exs _ _ _ _ _ (_ :: _) _ _
    refine Exs.cons (Ex.ifF' (c := false) (fun X => IsT.boolop (AllT.andF (IsT.cast (by fail "evs") (by simp)))) rfl Exs.nil) ?_
    exact Exs.less Exs.nil (Fewer.cons (by fail "has") (Fewer.cons (by fail "has") (Fewer.cons (by fail "has") (Fewer.cons (by fail "has") (Fewer.cons (by fail "has") (Fewer.cons (by fail "has") (Fewer.cons (by fail "has") (Fewer.cons (by fail "has") Fewer.nil))))))))
  · by_cases hp : 0 < ownI t n g
    · have tst := carry_test h hg hj hne hp
      change Exs _ _ _ _ _ (_ :: _) _ _
      refine Exs.cons (v' := [(Str.ofString "giver", .int ((g : Nat) : Int)), (Str.ofString "tower", .list (nums (tow t n))), (Str.ofString "size", .int ((n : Nat) : Int)), (Str.ofString "pale", .int w), (Str.ofString "scale", .int ((2 ^ (n + 1) : Nat) : Int)), (Str.ofString "colour", tri (hpaint t w n)), (Str.ofString "own", tri (ownI t n)), (Str.ofString "ways", tri (way t n))]) (o' := ow (fs ++ fRow (fpos t n) n J g j) (gs ++ gRow (fpos t n) n J g j)) (Ex.ifT' (c := true) (fun X => IsT.boolop (AllT.andT (IsT.cast (by unfold tri; fail "evs") (by simp; omega)) (AllT.andT (IsT.cast (by unfold tri; fail "evs") (by simp; exact hp)) AllT.andNil))) rfl ?_) (Exs.less Exs.nil (Fewer.cons (by fail "has") (Fewer.cons (by fail "has") (Fewer.cons (by fail "has") (Fewer.cons (by fail "has") (Fewer.cons (by fail "has") (Fewer.cons (by fail "has") (Fewer.cons (by fail "has") (Fewer.cons (by fail "has") Fewer.nil)))))))))
      change Exs _ _ _ _ _ (_ :: _) _ _
      refine Exs.cons (Ex.assign (d := .int (ownI t n g - 1)) (fun X => (by unfold tri; fail "evs")) (sto_fun fe (by decide +kernel)) (ow_ne (by decide +kernel) (by decide +kernel) _ _) (by with_unfolding_all rfl)) ?_
      refine Exs.cons (Ex.assign (d := .int (ownI t n j + 1)) (fun X => (by unfold tri; fail "evs")) (sto_fun fe (by decide +kernel)) (ow_ne (by decide +kernel) (by decide +kernel) _ _) (by with_unfolding_all rfl)) ?_
      cases ok : okB (fpos t n) n J g j with
      | false =>
        obtain ⟨e1, e2⟩ := row_no ok
        rw [e1, e2, List.append_nil, List.append_nil]
        refine Exs.cons (Ex.ifF' (c := okB (fpos t n) n J g j) (fun X => IsT.cast (by unfold tri; fail "evs" <;> omega) tst) ok Exs.nil) ?_
        exact Exs.less Exs.nil (Fewer.cons (by fail "has") (Fewer.cons (by fail "has") (Fewer.cons (by fail "has") (Fewer.cons (by fail "has") (Fewer.cons (by fail "has") (Fewer.cons (by fail "has") (Fewer.cons (by fail "has") (Fewer.cons (by fail "has") Fewer.nil))))))))
      | true =>
        obtain ⟨e1, e2⟩ := row_yes ok
        rw [e1, e2]
        refine Exs.cons (Ex.ifT' (c := okB (fpos t n) n J g j) (fun X => IsT.cast (by unfold tri; fail "evs" <;> omega) tst) ok (carry_body h0 h fe hg hj ok hfs hgs)) ?_
        exact Exs.less Exs.nil (Fewer.cons (by fail "has") (Fewer.cons (by fail "has") (Fewer.cons (by fail "has") (Fewer.cons (by fail "has") (Fewer.cons (by fail "has") (Fewer.cons (by fail "has") (Fewer.cons (by fail "has") (Fewer.cons (by fail "has") Fewer.nil))))))))
    · have ok : okB (fpos t n) n J g j = false := by
        cases ok : okB (fpos t n) n J g j with
        | false => rfl
        | true => exact absurd (by rw [ownI_eq h.tw.t3 hg]; exact (own_pos h.rn h.n0 ok).1) hp
      obtain ⟨e1, e2⟩ := row_no ok
      rw [e1, e2, List.append_nil, List.append_nil]
      change Exs _ _ _ _ _ (_ :: _) _ _
      refine Exs.cons (Ex.ifF' (c := false) (fun X => IsT.boolop (AllT.andT (IsT.cast (by unfold tri; fail "evs") (by simp; omega)) (AllT.andF (IsT.cast (by unfold tri; fail "evs") (by simp; omega))))) rfl Exs.nil) ?_
      exact Exs.less Exs.nil (Fewer.cons (by fail "has") (Fewer.cons (by fail "has") (Fewer.cons (by fail "has") (Fewer.cons (by fail "has") (Fewer.cons (by fail "has") (Fewer.cons (by fail "has") (Fewer.cons (by fail "has") (Fewer.cons (by fail "has") Fewer.nil))))))))
set_option maxHeartbeats 4000000 in
theorem giver_body (h0 : Ctx C P) {t : Nat → Nat} {n J : Nat} {w : Int} (h : Ld t n w J) {env : Env} (fe : FEnv env (recAt P 17).scope) {g : Nat} (hg : g < 3) :
    Exs C 4 env [(Str.ofString "giver", .int ((g : Nat) : Int)), (Str.ofString "tower", .list (nums (tow t n))), (Str.ofString "size", .int ((n : Nat) : Int)), (Str.ofString "pale", .int w), (Str.ofString "scale", .int ((2 ^ (n + 1) : Nat) : Int)), (Str.ofString "colour", tri (hpaint t w n)), (Str.ofString "own", tri (ownI t n)), (Str.ofString "ways", tri (way t n))] (ow (fOut (fpos t n) n J g) (gOut (fpos t n) n J g)) (forBody ((recAt P 17).body.getD 13 (.Pass ⟨0, 0, 0, 0⟩)))
      [(Str.ofString "tower", .list (nums (tow t n))), (Str.ofString "size", .int ((n : Nat) : Int)), (Str.ofString "pale", .int w), (Str.ofString "scale", .int ((2 ^ (n + 1) : Nat) : Int)), (Str.ofString "colour", tri (hpaint t w n)), (Str.ofString "own", tri (ownI t n)), (Str.ofString "ways", tri (way t n))] (ow (fOut (fpos t n) n J (g + 1)) (gOut (fpos t n) n J (g + 1))) := by
  have ol := fOut_len (f := fpos t n) (n := n) (J := J) g
  change Exs _ _ _ _ _ (_ :: _) _ _
  refine Exs.cons (Ex.forR (n := 3) (fun _ => [(Str.ofString "giver", .int ((g : Nat) : Int)), (Str.ofString "tower", .list (nums (tow t n))), (Str.ofString "size", .int ((n : Nat) : Int)), (Str.ofString "pale", .int w), (Str.ofString "scale", .int ((2 ^ (n + 1) : Nat) : Int)), (Str.ofString "colour", tri (hpaint t w n)), (Str.ofString "own", tri (ownI t n)), (Str.ofString "ways", tri (way t n))]) (fun j => ow (fOut (fpos t n) n J g ++ fIn (fpos t n) n J g j) (gOut (fpos t n) n J g ++ gIn (fpos t n) n J g j)) (fun X => ItR.range1 h0.range (gk_fun fe (by decide +kernel)) (Ev.cast (d := .int 3) Ev.int rfl) (by decide) (by decide +kernel) (by with_unfolding_all rfl)) (Fewer.cons (by fail "has") (Fewer.cons (by fail "has") (Fewer.cons (by fail "has") (Fewer.cons (by fail "has") (Fewer.cons (by fail "has") (Fewer.cons (by fail "has") (Fewer.cons (by fail "has") (Fewer.cons (by fail "has") Fewer.nil)))))))) (by unfold fIn gIn; rw [List.append_nil, List.append_nil]) (sto_fun fe (by decide +kernel)) (fun j => ow_ne (by decide +kernel) (by decide +kernel) _ _) ?_ (by intro y; with_unfolding_all rfl)) ?_
  · intro j hj
    have e : (0 : Int) + (j : Int) * 1 = (j : Int) := by omega
    rw [e]
    have il := fIn_len (f := fpos t n) (n := n) (J := J) g j
    have e1 : fOut (fpos t n) n J g ++ fIn (fpos t n) n J g (j + 1) = (fOut (fpos t n) n J g ++ fIn (fpos t n) n J g j) ++ fRow (fpos t n) n J g j := by rw [List.append_assoc]; rfl
    have e2 : gOut (fpos t n) n J g ++ gIn (fpos t n) n J g (j + 1) = (gOut (fpos t n) n J g ++ gIn (fpos t n) n J g j) ++ gRow (fpos t n) n J g j := by rw [List.append_assoc]; rfl
    rw [e1, e2]
    exact taker_body h0 h fe hg hj (by rw [List.length_append]; omega) (by rw [List.length_append]; omega)
  · exact Exs.less Exs.nil (Fewer.cons (by fail "has") (Fewer.cons (by fail "has") (Fewer.cons (by fail "has") (Fewer.cons (by fail "has") (Fewer.cons (by fail "has") (Fewer.cons (by fail "has") (Fewer.cons (by fail "has") Fewer.nil)))))))
local macro_rules | `(tactic| fail "ctr") => `(tactic| first
  | ((with_reducible show Ctr _ _ (Str.ofString "_high_bit") _ _); exact ctr_high_bit (by assumption))
  | ((with_reducible show Ctr _ _ (Str.ofString "_is_single_bit") _ _); exact ctr_single_bit (by assumption))
  | with_reducible assumption)
local macro_rules | `(tactic| fail "sub") => `(tactic| ((with_reducible show (_ : Option D) = some _); first | exact tow_at (by omega) | exact at3 _ (by omega) | rfl))

set_option maxHeartbeats 4000000 in
theorem goal_body (h0 : Ctx C P) {t : Nat → Nat} {n J : Nat} {w : Int} (h : Ld t n w J) {env : Env} (fe : FEnv env (recAt P 17).scope) {g : Nat} (hg : g < 3) {gs : List (Nat × Nat)} (hgs : gs.length ≤ 100) (hdue : (gs.filter fun q => q.1 == g).map (·.2) = dueN (fpos t n) n J g) :
    Exs C 4 env [(Str.ofString "goal", .int ((g : Nat) : Int)), (Str.ofString "gains", .list (emPs gs)), (Str.ofString "tower", .list (nums (tow t n))), (Str.ofString "size", .int ((n : Nat) : Int)), (Str.ofString "ways", tri (way t n))] [] (forBody ((recAt P 17).body.getD 15 (.Pass ⟨0, 0, 0, 0⟩))) [(Str.ofString "gains", .list (emPs gs)), (Str.ofString "tower", .list (nums (tow t n))), (Str.ofString "size", .int ((n : Nat) : Int)), (Str.ofString "ways", tri (way t n))] [] := by
  have hn9 := h.tw.n9
  have hb1 := hb_way h.tw.t3 n g hg
  have sb1 := single_way h.tw.t3 n g hg
  have du := due_eq h.tw.t3 h.rn h.n0 hg
  have pairs : (gs.filter fun q => ((q.1 : Int) == (g : Int))).map (fun q => D.int (q.2 : Int)) = nums ((dueN (fpos t n) n J g).map fun (k : Nat) => (k : Int)) := by
    rw [← hdue, ← numsN, List.map_map]
    have : (fun q : Nat × Nat => ((q.1 : Int) == (g : Int))) = fun q => q.1 == g := funext fun q => by rw [Bool.eq_iff_iff]; simp; omega
    rw [this]; rfl
  generalize dueN (fpos t n) n J g = due at *
  change Exs _ _ _ _ _ (_ :: _) _ _
  refine Exs.cons (Ex.assign (d := .int (way t n g)) (fun X => (by unfold tri; fail "evs")) (sto_fun fe (by decide +kernel)) noOwn (by with_unfolding_all rfl)) ?_
  refine Exs.cons (Ex.compM (em := emN) (as := List.range n) (lc := [(Str.ofString "goal", .int ((g : Nat) : Int)), (Str.ofString "tower", .list (nums (tow t n)))]) deN (fun k => ((t k : Nat) : Int) != ((g : Nat) : Int)) emN deN_emN fe (fun X => (It.rangeN (ItR.range1 h0.range (gk_fun fe (by decide +kernel)) (by fail "evs") (by omega) (by decide +kernel) (by with_unfolding_all rfl)))) (by decide +kernel) (by with_unfolding_all rfl) (by decide +kernel) (by decide +kernel) (by decide +kernel) (Caps.cons (by fail "has") (by decide +kernel) (by decide +kernel) (Caps.cons (by fail "has") (by decide +kernel) (by decide +kernel) Caps.nil)) (by rw [List.length_range]; omega) (fun a => rfl) ?_ (by intro x; with_unfolding_all rfl) (sto_fun fe (by decide +kernel)) noOwn) ?_
  · intro X env' k hk ce
    have hk := List.mem_range.mp hk
    unfold emN
    refine ⟨?_, fun _ => ?_⟩
    · show IsT _ _ _ _ _ _ _
      exact IsT.cast (by fail "evs") rfl
    · fail "evs"
  refine Exs.cons (Ex.assign (d := .int (-1)) (fun X => Ev.cast (by fail "evs") (by rfl)) (sto_fun fe (by decide +kernel)) noOwn (by with_unfolding_all rfl)) ?_
  refine Exs.cons (Ex.assign (d := .bool false) (fun X => Ev.cast (by fail "evs") (by rfl)) (sto_fun fe (by decide +kernel)) noOwn (by with_unfolding_all rfl)) ?_
  have eoff : ((List.range n).filter fun k => ((t k : Nat) : Int) != ((g : Nat) : Int)).map emN = nums ((offN t g n).map fun (k : Nat) => (k : Int)) := numsN _
  rw [eoff]
  refine Exs.cons (v' := [(Str.ofString "at_once", .bool (onceB t g n)), (Str.ofString "greatest", .int (grt t g n)), (Str.ofString "way", .int (way t n g)), (Str.ofString "goal", .int ((g : Nat) : Int)), (Str.ofString "gains", .list (emPs gs)), (Str.ofString "tower", .list (nums (tow t n))), (Str.ofString "size", .int ((n : Nat) : Int)), (Str.ofString "ways", tri (way t n))]) (o' := []) ?_ ?_
  · rcases off_grt t g n with ⟨e1, e2⟩ | ⟨m, pre, e1, e2, e3⟩
    · rw [e1, once_no e1, e2]
      refine Ex.ifF' (c := !(([] : List Nat).map fun (k : Nat) => (k : Int)).isEmpty) (fun X => IsT.cmp (by fail "evs") (by fail "evs") CmpOk.neNil (by with_unfolding_all rfl)) rfl (Exs.less Exs.nil (Fewer.cons (by fail "has") (Fewer.cons (by fail "has") (Fewer.cons (by fail "has") (Fewer.cons (by fail "has") (Fewer.cons (by fail "has") (Fewer.cons (by fail "has") (Fewer.cons (by fail "has") (Fewer.cons (by fail "has") Fewer.nil)))))))))
    · have hm := grt_ne t g n m e1
      have onc := once_yes h.tw.t3 hg hm e1
      have hol : (offN t g n).length = pre.length + 1 := by rw [e3, List.length_append]; rfl
      have hpl : pre.length < 10 := by
        have : (offN t g n).length ≤ n := by unfold offN; exact Nat.le_trans (List.length_filter_le _ _) (by rw [List.length_range]; exact Nat.le_refl _)
        omega
      rw [e1, onc, e3]
      refine Ex.ifT' (c := !((pre ++ [m]).map fun (k : Nat) => (k : Int)).isEmpty) (fun X => IsT.cmp (by fail "evs") (by fail "evs") CmpOk.neNil (by with_unfolding_all rfl)) (by simp) ?_
      change Exs _ _ _ _ _ (_ :: _) _ _
      refine Exs.cons (Ex.assign (d := .int (m : Int)) (fun X => Ev.indexNeg (i := -1) (by fail "evs") (Ev.cast (by fail "evs") (by rfl)) (by decide) ?_ ?_ (by decide) (by intro _ _; with_unfolding_all rfl)) (sto_fun fe (by decide +kernel)) noOwn (by with_unfolding_all rfl)) ?_
      · rw [nlen, List.length_map, List.length_append]; simp only [List.length_cons, List.length_nil]; omega
      · rw [nlen, List.length_map, List.length_append]
        have e4 : ((-1 : Int) + ((pre.length + [m].length : Nat) : Int)).toNat = pre.length := by simp only [List.length_cons, List.length_nil]; omega
        rw [e4]
        unfold nums
        simp
      refine Exs.cons (Ex.assign (d := .bool (((List.range m).filter fun k => ((t k : Nat) : Int) != (3 - (g : Int) - ((t m : Nat) : Int))).map fun (k : Nat) => (k : Int)).isEmpty) (fun X => Ev.cmp (d2 := .list []) (Ev.cast (Ev.compM (em := emN) (as := List.range m) (lc := [(Str.ofString "goal", .int ((g : Nat) : Int)), (Str.ofString "greatest", .int (m : Int)), (Str.ofString "tower", .list (nums (tow t n)))]) deN (fun k => ((t k : Nat) : Int) != (3 - (g : Int) - ((t m : Nat) : Int))) emN deN_emN fe (It.rangeN (ItR.range1 h0.range (gk_fun fe (by decide +kernel)) (by fail "evs") (by omega) (by decide +kernel) (by with_unfolding_all rfl))) (by decide +kernel) (by with_unfolding_all rfl) (by decide +kernel) (by decide +kernel) (by decide +kernel) (Caps.cons (by fail "has") (by decide +kernel) (by decide +kernel) (Caps.cons (by fail "has") (by decide +kernel) (by decide +kernel) (Caps.cons (by fail "has") (by decide +kernel) (by decide +kernel) Caps.nil))) (by rw [List.length_range]; omega) (fun a => rfl) ?_ (by intro x; with_unfolding_all rfl)) (by rw [numsN])) (by fail "evs") CmpOk.eqNil (by with_unfolding_all rfl)) (sto_fun fe (by decide +kernel)) noOwn (by with_unfolding_all rfl)) ?_
      · intro env' k hk ce
        have hk := List.mem_range.mp hk
        unfold emN
        refine ⟨?_, fun _ => ?_⟩
        · show IsT _ _ _ _ _ _ _
          exact IsT.cast (by fail "evs") rfl
        · fail "evs"
      rw [show (((List.range m).filter fun k => ((t k : Nat) : Int) != (3 - (g : Int) - ((t m : Nat) : Int))).map fun (k : Nat) => (k : Int)).isEmpty = ((List.range m).filter fun k => ((t k : Nat) : Int) != (3 - (g : Int) - ((t m : Nat) : Int))).isEmpty by rw [List.isEmpty_map]]
      exact Exs.less Exs.nil (Fewer.cons (by fail "has") (Fewer.cons (by fail "has") (Fewer.cons (by fail "has") (Fewer.cons (by fail "has") (Fewer.cons (by fail "has") (Fewer.cons (by fail "has") (Fewer.cons (by fail "has") (Fewer.cons (by fail "has") Fewer.nil))))))))
  refine Exs.cons (Ex.ifF' (c := false) (fun X => IsT.boolop (AllT.orF (IsT.cast (by fail "evs") (by rw [show ((Builtin.Int.intBits (way t n g) : Int) - 1) = grt t g n from hb1]; simp)) (AllT.orF (IsT.cast (by fail "evs") (by rw [sb1]; cases onceB t g n <;> rfl)) AllT.orNil))) rfl Exs.nil) ?_
  refine Exs.cons (Ex.assign (d := .list (nums (([] : List Nat).map fun (k : Nat) => (k : Int)))) (fun X => Ev.cast (d := .list []) (by fail "evs") (by rfl)) (sto_fun fe (by decide +kernel)) noOwn (by with_unfolding_all rfl)) ?_
  refine Exs.cons (v' := [(Str.ofString "due", .list (nums (due.map fun (k : Nat) => (k : Int)))), (Str.ofString "goal", .int ((g : Nat) : Int)), (Str.ofString "gains", .list (emPs gs)), (Str.ofString "tower", .list (nums (tow t n))), (Str.ofString "size", .int ((n : Nat) : Int)), (Str.ofString "ways", tri (way t n))]) (o' := []) ?_ ?_
  · rcases du with ⟨e1, e2⟩ | ⟨d, e1, e2, e3⟩
    · rw [e1]
      refine Ex.ifF' (c := decide ((0 : Int) < way t n g)) (fun X => by fail "evs") (by rw [e2]; rfl) (Exs.less Exs.nil (Fewer.cons (by fail "has") (Fewer.cons (by fail "has") (Fewer.cons (by fail "has") (Fewer.cons (by fail "has") (Fewer.cons (by fail "has") (Fewer.cons (by fail "has") Fewer.nil)))))))
    · rw [e1]
      refine Ex.ifT' (c := decide ((0 : Int) < way t n g)) (fun X => by fail "evs") (decide_eq_true e2) ?_
      change Exs _ _ _ _ _ (_ :: _) _ _
      refine Exs.cons (Ex.assign (d := .list (nums ([d].map fun (k : Nat) => (k : Int)))) (fun X => Ev.cast (by fail "evs") (by rw [show nums ([d].map fun (k : Nat) => (k : Int)) = [.int (d : Int)] from rfl, ← e3]; rfl)) (sto_fun fe (by decide +kernel)) noOwn (by with_unfolding_all rfl)) ?_
      exact Exs.less Exs.nil (Fewer.cons (by fail "has") (Fewer.cons (by fail "has") (Fewer.cons (by fail "has") (Fewer.cons (by fail "has") (Fewer.cons (by fail "has") (Fewer.cons (by fail "has") Fewer.nil))))))
  refine Exs.cons (Ex.ifF' (c := false) (fun X => IsT.ne (d := .list (nums (due.map fun (k : Nat) => (k : Int)))) (Ev.cast (Ev.compM (em := emP) (as := gs) (lc := [(Str.ofString "goal", .int ((g : Nat) : Int))]) deP (fun q => ((q.1 : Int) == (g : Int))) (fun q => .int (q.2 : Int)) deP_emP fe (It.of_list (Ev.cast (d := .list (emPs gs)) (by fail "evs") rfl)) (by decide +kernel) (by with_unfolding_all rfl) (by decide +kernel) (by decide +kernel) (by decide +kernel) (Caps.cons (by fail "has") (by decide +kernel) (by decide +kernel) Caps.nil) (by omega) (fun a => rfl) ?_ (by intro x; with_unfolding_all rfl)) (by rw [pairs])) (by fail "evs") (flat_nums _) (by with_unfolding_all rfl)) rfl Exs.nil) ?_
  · intro env' q hq ce
    unfold emP
    refine ⟨?_, fun _ => ?_⟩
    · show IsT _ _ _ _ _ _ _
      exact IsT.cast (IsT.cmp (d1 := .int (q.1 : Int)) (d2 := .int (g : Int)) (Ev.indexT (i := 0) (by fail "evs") (by fail "evs") (by decide) rfl (by decide) (by intro _ _; with_unfolding_all rfl)) (by fail "evs") CmpOk.eqII (by with_unfolding_all rfl)) rfl
    · exact Ev.indexT (i := 1) (by fail "evs") (by fail "evs") (by decide) rfl (by decide) (by intro _ _; with_unfolding_all rfl)
  exact Exs.less Exs.nil (Fewer.cons (by fail "has") (Fewer.cons (by fail "has") (Fewer.cons (by fail "has") (Fewer.cons (by fail "has") Fewer.nil))))
local macro_rules | `(tactic| fail "bok") => `(tactic| with_reducible assumption)
local macro_rules | `(tactic| fail "ctr") => `(tactic| first
  | ((with_reducible show Ctr _ _ (Str.ofString "_high_bit") _ _); exact ctr_high_bit (by assumption))
  | ((with_reducible show Ctr _ _ (Str.ofString "_law_painted") _ _); exact ctr_hpainted (by assumption) (by assumption))
  | ((with_reducible show Ctr _ _ (Str.ofString "_law_read") _ _); exact ctr_hread (by assumption) (by assumption))
  | ((with_reducible show Ctr _ _ (Str.ofString "_law_moves") _ _); exact ctr_moves (by assumption) (by assumption))
  | with_reducible assumption)
theorem not_has_ {x : Str} : ∀ {l : Vals} {d : D}, (∀ y ∈ l.map (·.1), y ≠ x) → ¬ Has l x d
  | _, _, h, .head => h _ List.mem_cons_self rfl
  | _, _, h, .tail _ q => not_has_ (fun y hy => h y (List.mem_cons_of_mem _ hy)) q
theorem not_has {x : Str} {l : Vals} {ks : List Str} (hk : l.map (·.1) = ks) (h : (ks.all fun y => !(y == x)) = true) (d : D) : ¬ Has l x d :=
  not_has_ (by rw [hk]; intro y hy e; have := List.all_eq_true.mp h y hy; rw [e] at this; simp at this)
set_option maxHeartbeats 8000000 in
theorem ctr_hlaw (h0 : Ctx C P) {ns : List Int} (hl : ns.length ≤ 63) : Ctr C 5 (Str.ofString "law") [.list (nums ns)] (.bool true) := by
  have nl := nlen ns
  have nl9 := nlen (ns.take 9)
  have tl9 : (ns.take 9).length ≤ 9 := by rw [List.length_take]; omega
  have dl := drw_len ns
  have tt := twS_tow ns
  have t3 := twS_lt ns
  obtain ⟨n, hn⟩ : ∃ n, n = (drw ns).length := ⟨_, rfl⟩
  obtain ⟨t, ht⟩ : ∃ t, t = twS ns := ⟨_, rfl⟩
  rw [← hn] at dl tt
  rw [← ht] at tt t3
  have hn9 : n ≤ 9 := dl.2
  have pn := p2 n
  obtain ⟨w, hw⟩ : ∃ w, w = ((ns.take 9).sum + 14).fmod (2 ^ n) := ⟨_, rfl⟩
  have hwb : 0 ≤ w ∧ w < 2 ^ n := by
    rw [hw, Int.fmod_eq_emod_of_nonneg _ (by omega)]
    exact ⟨Int.emod_nonneg _ (by omega), Int.emod_lt_of_pos _ (by omega)⟩
  have tw : Tw t n w := ⟨hn9, t3, hwb.1, hwb.2⟩
  have n0 : 0 < n := by omega
  obtain ⟨J, rn⟩ := run_ex (fpos t n) n n0
  have ld : Ld t n w J := ⟨tw, n0, rn⟩
  have hlen : (nums (tow t n)).length = n := by rw [nlen, tow_len]
  have cw0 : Ctr C 1 (Str.ofString "_law_way") [.list (nums (tow t n)), .int 0] (.int (way t n 0)) := ctr_way (g := 0) h0 hn9 t3 (by decide)
  have cw1 : Ctr C 1 (Str.ofString "_law_way") [.list (nums (tow t n)), .int 1] (.int (way t n 1)) := ctr_way (g := 1) h0 hn9 t3 (by decide)
  have cw2 : Ctr C 1 (Str.ofString "_law_way") [.list (nums (tow t n)), .int 2] (.int (way t n 2)) := ctr_way (g := 2) h0 hn9 t3 (by decide)
  have hpl : (2 : Int) ^ n ≤ 512 := by rw [← pow2n]; exact Int.ofNat_le.mpr (Nat.pow_le_pow_right (show 0 < 2 by decide) hn9)
  have own3 : ∀ a, hpaint t w n a - w = ownI t n a := fun a => by rw [hpaint_shift]; unfold ownI; omega
  have way3 : ∀ a, a < 3 → 2 ^ n - 1 - ownI t n a = way t n a := fun a ha => (way_eq t3 n a ha).symm
  have nim : bx (bx (way t n 0) (way t n 1)) (way t n 2) = 0 := by
    have := ways_x3 (x := 0) (y := 1) (z := 2) ⟨by decide, by decide, by decide⟩ n (f := fpos t n) fun i => three (fpos_lt t3 n i)
    have e : ∀ a, a < 3 → way t n a = 2 ^ n - 1 - dsum (fpos t n) n a := fun a ha => by rw [way_eq t3 n a ha, own_dsum t3 0 n ha]; omega
    rw [e 0 (by decide), e 1 (by decide), e 2 (by decide)]
    exact this
  obtain ⟨fp, m2, m3⟩ := found_perm (fpos_lt t3 n) rn n0 t3 fun k hk => (twr_fpos t3 hk).symm
  have fok := fOut_ok (f := fpos t n) (n := n) (J := J) (fpos_lt t3 n)
  obtain ⟨so1, sp1, sd1, sb1⟩ := BOk.sortedRows (C := C) fok (by rw [fp.length_eq]; exact m2) (by rw [fp.length_eq]; exact m3)
  obtain ⟨so2, sp2, sd2, sb2⟩ := BOk.sortedRows (C := C) (l := mOut t n n) (m := n) (fun r hr => fok r (fp.mem_iff.mpr hr)) m2 m3
  have same := sorted_same fok fp.symm sp1 sp2 sd1 sd2
  rw [← same] at sb2
  refine Ctr.intro' (d := recAt P 17) (xs := [Str.ofString "script"]) [(Str.ofString "script", .list (nums ns))] h0.fn 11 (by kernel_rfl) (by kernel_rfl) ?_ (by decide +kernel) rfl (by decide +kernel) (by kernel_rfl) (by kernel_rfl) (by kernel_rfl) rfl ?_
  · rintro pm code doc (_ | ⟨script0, _ | _⟩) hl <;> first | rfl | cases hl
  · intro env fe
    change ExsR _ _ _ _ _ (_ :: _) _
    refine ExsR.cons (Ex.assign (d := .list (nums (ns.take 9))) (fun X => Ev.cast (Ev.sliceTo (n := 9) (by fail "evs") (Ev.cast (d := .int 9) Ev.int rfl) (by rw [nl]; omega)) (by rw [nums_take'])) (sto_fun fe (by decide +kernel)) noOwn (by with_unfolding_all rfl)) ?_
    refine ExsR.cons (Ex.compM (em := emI) (as := drw ns) (lc := []) deI (fun _ => true) (fun x => .int (x.fmod 3)) deI_emI fe (fun X => It.of_list (Ev.cast (d := .list (nums (drw ns))) (Ev.cast (Ev.binop (d1 := .list (nums (ns.take 9))) (d2 := .list (nums ([2, 0, 1, 1].drop (ns.take 9).length))) (by fail "evs") (Ev.cast (Ev.sliceFrom (n := (ns.take 9).length) (ds := nums [2, 0, 1, 1]) (Ev.cast (d := .list [.int 2, .int 0, .int 1, .int 1]) (by fail "evs") rfl) (Ev.cast (by fail "evs" <;> (rw [nl9]; omega)) (by rw [nl9])) (by decide)) (by rw [nums_drop'])) (OpOk.addLL ?_)) (by rw [nums_app]; rfl)) rfl)) (by decide +kernel) (by with_unfolding_all rfl) (by decide +kernel) (by decide +kernel) (by decide +kernel) Caps.nil (by omega) (fun a => rfl) ?_ (by intro x; with_unfolding_all rfl) (sto_fun fe (by decide +kernel)) noOwn) ?_
    · rw [nlen, nlen, List.length_drop]; simp only [List.length_cons, List.length_nil]; omega
    · intro X env' x hx ce
      refine ⟨rfl, fun _ => ?_⟩
      unfold emI
      fail "evs"
    have etow : ((drw ns).filter fun _ => true).map (fun x => D.int (x.fmod 3)) = nums (tow t n) := by
      rw [tt, List.filter_eq_self.mpr fun _ _ => rfl]; unfold nums; rw [List.map_map]; rfl
    rw [etow]
    refine ExsR.cons (Ex.assign (d := .int ((n : Nat) : Int)) (fun X => Ev.cast (by fail "evs" <;> (rw [hlen]; omega)) (by rw [hlen])) (sto_fun fe (by decide +kernel)) noOwn (by with_unfolding_all rfl)) ?_
    refine ExsR.cons (Ex.assign (d := .int w) (fun X => Ev.cast (by fail "evs" <;> (rw [Int.toNat_natCast]; omega)) (by rw [Int.toNat_natCast, hw])) (sto_fun fe (by decide +kernel)) noOwn (by with_unfolding_all rfl)) ?_
    refine ExsR.cons (Ex.assign (d := .int ((2 ^ (n + 1) : Nat) : Int)) (fun X => Ev.cast (by fail "evs") (by rw [show ((n : Int) + 1).toNat = n + 1 by omega, pow2n])) (sto_fun fe (by decide +kernel)) noOwn (by with_unfolding_all rfl)) ?_
    refine ExsR.cons (Ex.assign (d := tri (hpaint t w n)) (fun X => by fail "evs") (sto_fun fe (by decide +kernel)) noOwn (by with_unfolding_all rfl)) ?_
    unfold tri
    refine ExsR.cons (Ex.comp3 (e0 := ownI t n 0) (e1 := ownI t n 1) (e2 := ownI t n 2) (lc := [(Str.ofString "colour", .list [.int (hpaint t w n 0), .int (hpaint t w n 1), .int (hpaint t w n 2)]), (Str.ofString "pale", .int w)]) fe (fun X => ItR.range1 h0.range (gk_fun fe (by decide +kernel)) (Ev.cast (d := .int 3) Ev.int rfl) (by decide) (by decide +kernel) (by with_unfolding_all rfl)) (by decide +kernel) (by with_unfolding_all rfl) (by decide +kernel) (by decide +kernel) (by decide +kernel) (Caps.cons (by fail "has") (by decide +kernel) (by decide +kernel) (Caps.cons (by fail "has") (by decide +kernel) (by decide +kernel) Caps.nil)) (by intro x; with_unfolding_all rfl) (sto_fun fe (by decide +kernel)) noOwn ?_ ?_ ?_) ?_
    · intro X env' ce
      exact Ev.cast (by fail "evs") (by rw [own3 0])
    · intro X env' ce
      exact Ev.cast (by fail "evs") (by rw [own3 1])
    · intro X env' ce
      exact Ev.cast (by fail "evs") (by rw [own3 2])
    refine ExsR.cons (Ex.comp3 (e0 := way t n 0) (e1 := way t n 1) (e2 := way t n 2) (lc := [(Str.ofString "own", .list [.int (ownI t n 0), .int (ownI t n 1), .int (ownI t n 2)]), (Str.ofString "size", .int ((n : Nat) : Int))]) fe (fun X => ItR.range1 h0.range (gk_fun fe (by decide +kernel)) (Ev.cast (d := .int 3) Ev.int rfl) (by decide) (by decide +kernel) (by with_unfolding_all rfl)) (by decide +kernel) (by with_unfolding_all rfl) (by decide +kernel) (by decide +kernel) (by decide +kernel) (Caps.cons (by fail "has") (by decide +kernel) (by decide +kernel) (Caps.cons (by fail "has") (by decide +kernel) (by decide +kernel) Caps.nil)) (by intro x; with_unfolding_all rfl) (sto_fun fe (by decide +kernel)) noOwn ?_ ?_ ?_) ?_
    · intro X env' ce
      exact Ev.cast (by fail "evs") (by rw [Int.toNat_natCast, way3 0 (by decide)])
    · intro X env' ce
      exact Ev.cast (by fail "evs") (by rw [Int.toNat_natCast, way3 1 (by decide)])
    · intro X env' ce
      exact Ev.cast (by fail "evs") (by rw [Int.toNat_natCast, way3 2 (by decide)])
    refine ExsR.cons (Ex.ifF' (c := false) (fun X => IsT.ne (d := .list [.int (way t n 0), .int (way t n 1), .int (way t n 2)]) (by fail "evs") (Ev.comp3 (e0 := way t n 0) (e1 := way t n 1) (e2 := way t n 2) (lc := [(Str.ofString "tower", .list (nums (tow t n)))]) fe (ItR.range1 h0.range (gk_fun fe (by decide +kernel)) (Ev.cast (d := .int 3) Ev.int rfl) (by decide) (by decide +kernel) (by with_unfolding_all rfl)) (by decide +kernel) (by with_unfolding_all rfl) (by decide +kernel) (by decide +kernel) (by decide +kernel) (Caps.cons (by fail "has") (by decide +kernel) (by decide +kernel) Caps.nil) (by intro x; with_unfolding_all rfl) (fun env' ce => by fail "evs") (fun env' ce => by fail "evs") (fun env' ce => by fail "evs")) (flat3 _ _ _) (by with_unfolding_all rfl)) rfl Exs.nil) ?_
    refine ExsR.cons (Ex.ifF' (c := false) (fun X => IsT.cast (by fail "evs") (by rw [show Builtin.bitXor (Builtin.bitXor (way t n 0) (way t n 1)) (way t n 2) = 0 from nim]; rfl)) rfl Exs.nil) ?_
    refine ExsR.cons (Ex.ifF' (c := false) (fun X => IsT.ne (d := .tup [.list (nums (tow t n)), .list [.int w, .int w, .int w]]) (Ev.callF (ctr_hread h0 tw) (by decide) (gk_fun fe (by decide +kernel)) (by unfold tri; fail "evs") (by decide +kernel) (by with_unfolding_all rfl)) (by fail "evs") (flat_pair (tow t n) [w, w, w]) (by with_unfolding_all rfl)) rfl Exs.nil) ?_
    refine ExsR.cons (Ex.own (x := Str.ofString "found") (gk_fun fe (by decide +kernel)) (by intro p hp; cases hp) ?_ (by with_unfolding_all rfl)) ?_
    · exact fun d => not_has (ks := [Str.ofString "ways", Str.ofString "own", Str.ofString "colour", Str.ofString "scale", Str.ofString "pale", Str.ofString "size", Str.ofString "tower", Str.ofString "drawn", Str.ofString "script"]) rfl (by decide +kernel) d
    refine ExsR.cons (Ex.own (x := Str.ofString "gains") (gk_fun fe (by decide +kernel)) (by intro p hp; cases hp with | head => ((show Str.ofString "found" ≠ Str.ofString "gains"); decide +kernel) | tail _ h => cases h) ?_ (by with_unfolding_all rfl)) ?_
    · exact fun d => not_has (ks := [Str.ofString "ways", Str.ofString "own", Str.ofString "colour", Str.ofString "scale", Str.ofString "pale", Str.ofString "size", Str.ofString "tower", Str.ofString "drawn", Str.ofString "script"]) rfl (by decide +kernel) d
    refine ExsR.cons (Ex.forR (n := 3) (fun _ => [(Str.ofString "tower", .list (nums (tow t n))), (Str.ofString "size", .int ((n : Nat) : Int)), (Str.ofString "pale", .int w), (Str.ofString "scale", .int ((2 ^ (n + 1) : Nat) : Int)), (Str.ofString "colour", tri (hpaint t w n)), (Str.ofString "own", tri (ownI t n)), (Str.ofString "ways", tri (way t n))]) (fun g => ow (fOut (fpos t n) n J g) (gOut (fpos t n) n J g)) (fun X => (ItR.range1 h0.range (gk_fun fe (by decide +kernel)) (Ev.cast (d := .int 3) Ev.int rfl) (by decide) (by decide +kernel) (by with_unfolding_all rfl))) (Fewer.cons (by first | fail "has" | (unfold tri; fail "has")) (Fewer.cons (by first | fail "has" | (unfold tri; fail "has")) (Fewer.cons (by first | fail "has" | (unfold tri; fail "has")) (Fewer.cons (by first | fail "has" | (unfold tri; fail "has")) (Fewer.cons (by first | fail "has" | (unfold tri; fail "has")) (Fewer.cons (by first | fail "has" | (unfold tri; fail "has")) (Fewer.cons (by first | fail "has" | (unfold tri; fail "has")) Fewer.nil))))))) rfl (sto_fun fe (by decide +kernel)) (fun g => ow_ne (by decide +kernel) (by decide +kernel) _ _) ?_ (by intro y; with_unfolding_all rfl)) ?_
    · intro g hg
      have e : (0 : Int) + (g : Int) * 1 = (g : Int) := by omega
      rw [e]
      exact giver_body h0 ld fe hg
    refine ExsR.freeze (ExsR.freeze ?_)
    refine ExsR.cons (Ex.ifF' (c := false) (fun X => IsT.ne (d := .list (rows so1)) (by fail "evs") (by fail "evs") (flat_rows _) (by with_unfolding_all rfl)) rfl Exs.nil) ?_
    refine ExsR.cons (Ex.forR (n := 3) (fun _ => [(Str.ofString "gains", .list (emPs (gOut (fpos t n) n J 3))), (Str.ofString "tower", .list (nums (tow t n))), (Str.ofString "size", .int ((n : Nat) : Int)), (Str.ofString "ways", tri (way t n))]) (fun _ => []) (fun X => (ItR.range1 h0.range (gk_fun fe (by decide +kernel)) (Ev.cast (d := .int 3) Ev.int rfl) (by decide) (by decide +kernel) (by with_unfolding_all rfl))) (Fewer.cons (by first | fail "has" | (unfold tri; fail "has")) (Fewer.cons (by first | fail "has" | (unfold tri; fail "has")) (Fewer.cons (by first | fail "has" | (unfold tri; fail "has")) (Fewer.cons (by first | fail "has" | (unfold tri; fail "has")) Fewer.nil)))) rfl (sto_fun fe (by decide +kernel)) (fun _ => noOwn) ?_ (by intro y; with_unfolding_all rfl)) ?_
    · intro g hg
      have e : (0 : Int) + (g : Int) * 1 = (g : Int) := by omega
      rw [e]
      exact goal_body h0 ld fe hg (by have := (fOut_len (f := fpos t n) (n := n) (J := J) 3).2; omega) (gains_due (fpos_lt t3 n) rn hg)
    · refine ExsR.ret (ExR.ret fun X => ?_)
      fail "evs"
end Mine
end
section
open PySem PySem.W PyProof.Rows
namespace Mine
set_option maxRecDepth 100000
theorem ws : PySem.Challenge.rw_rl0030_01.wellSaid = true := by kernel_rfl
noncomputable def view : Program := { PySem.Challenge.pw_rl0030_01 with main := { PySem.Challenge.pw_rl0030_01.main with body := PySem.Challenge.pw_rl0030_01.main.body.take 1 ++ PySem.Challenge.pw_rl0030_01.main.body.drop 4 } }
def looseN : List Str := [Str.ofString "ONE_THIRD", Str.ofString "ONE_SIXTH", Str.ofString "TWO_THIRD"]
def lv : List (Str × WData) := [(Str.ofString "ONE_THIRD", WData.float 4599676419421066581), (Str.ofString "ONE_SIXTH", WData.float 4595172819793696085), (Str.ofString "TWO_THIRD", WData.float 4604180019048437077)]
theorem left : LeftO PySem.Challenge.rw_rl0030_01.row.prog view looseN (fun s => xlAt view lv s && recOk [] s) (fun _ => ()) (fun _ => ()) 1300 (!PySem.Challenge.rw_rl0030_01.row.writes) := fun w => by kernel_rfl
end Mine
end
open PySem PySem.W PyProof.Rows
set_option maxRecDepth 100000 in
set_option maxHeartbeats 8000000 in
theorem PySem.Challenge.cw_rl0030_01_holds : PySem.Challenge.rw_rl0030_01.Holds := by
  w_on
  refine holds_law Mine.ws fun said => ?_
  refine holds_open (q := Mine.view) (loose := Mine.looseN) (Xt := fun s => xlAt Mine.view Mine.lv s && recOk [] s) (XP := XL Mine.view Mine.lv) (Yf := fun _ => ()) (Ya := fun _ => ()) (YP := fun _ _ => True) (N := 1300) Mine.left (fun _ _ _ => trivial) (fun _ _ _ _ _ => trivial) (fun s e => xl_of s (Bool.and_eq_true_iff.mp e).1) XL.keeps (by rfl) (by rfl) (by rfl) (fun s e => recFacts_of (Bool.and_eq_true_iff.mp e).2) (by rfl) said (by decide +kernel) ⟨rfl, rfl, rfl, rfl, rfl, by decide +kernel⟩ ?hw ?hc
  case hw => w_witness2
  intro w s₀ s₁ mg mb G Y fa o pm cd doc dV kV ho hd hcd hD hmg hg args vals as hpre hlay hrd hwl hlo
  have V := (Ground.X G).2
  refine Ground.open G ?_
  intro T B D TE TW
  have h0 := Mine.ctx_of (C := ⟨PySem.Challenge.rw_rl0030_01.row.prog, w, s₁.heap, mg, mb, T.g, T.b, T.nolimit⟩) (P := Mine.P) T (by kernel_rfl) (by decide +kernel) (Mine.lit_flt V (by simp [Mine.lv]) (by decide +kernel)) (Mine.lit_flt V (by simp [Mine.lv]) (by decide +kernel)) (Mine.lit_flt V (by simp [Mine.lv]) (by decide +kernel))
  clear hd hcd hD ho G Y TE TW B D
  wrow_args hpre hlay hrd hwl hlo
  rename_i ns _ _ _ _ _ _ _ a vs _ hL ra w1 r0 hI hrr hc1 hc2
  refine Mine.law_end (C := ⟨PySem.Challenge.rw_rl0030_01.row.prog, w, s₁.heap, mg, mb, T.g, T.b, T.nolimit⟩) (j := 5) (by decide) (Mine.ctr_hlaw h0 (ns := ns) (by omega)) hmg rfl hL hI fun s' k => ?_
  obtain ⟨h', tk, rfl, hk⟩ := k
  refine ⟨.inl ⟨_, .bool true, [], rfl, fun cls => by rfl, .bool true, ?_, unshared_nil⟩, .of_keep hk, rfl, .of_eq hg⟩
  first | wrow_post | (refine' postW_of ?s ?v ?e; (case s => o_shape); (case v => wtm_val); (case e => w_fin))
