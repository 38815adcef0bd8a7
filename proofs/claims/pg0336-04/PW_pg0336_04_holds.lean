import PyProof.Rows.All
import Wide.All
import OpenK.AllK
import Wide.FinOn
import Lean
import PySem.Challenge.RW_pg0336_04
section
open PySem PySem.W PyProof.Rows
set_option Elab.async false
set_option maxRecDepth 100000
namespace Mine

/-- pure values -/
inductive PV where
  | none
  | bool (b : Bool)
  | int (i : Int)
  | bytes (b : List UInt8)
  | barr (b : List UInt8)
  | list (vs : List PV)
  | tup (vs : List PV)
  | rng (a b c : Int)

/-- a part of a heap: what is frozen, what is to be kept -/
noncomputable abbrev Fz := Addr → Option Obj
noncomputable def Sub (g : Fz) (h : Heap) : Prop := ∀ b o, g b = some o → h.get? b = some o
noncomputable def Le (g g' : Fz) : Prop := ∀ b o, g b = some o → g' b = some o
noncomputable def Ext (h h' : Heap) : Prop := ∀ b o, h.get? b = some o → h'.get? b = some o
theorem Le.refl (g : Fz) : Le g g := fun _ _ e => e
theorem Le.trans {g g' g'' : Fz} (x : Le g g') (y : Le g' g'') : Le g g'' := fun b o e => y b o (x b o e)
theorem Ext.refl (h : Heap) : Ext h h := fun _ _ e => e
theorem Ext.trans {g g' g'' : Heap} (x : Ext g g') (y : Ext g' g'') : Ext g g'' := fun b o e => y b o (x b o e)
theorem Ext.push (h : Heap) (o : Obj) : Ext h (h.push o) := fun _ _ e => Heap.get?_push_of_some _ e

noncomputable abbrev barrObj (b : List UInt8) : Obj := { cls := .type "bytearray", data := .bytearray b.toArray }
noncomputable abbrev rngObj (a b c : Int) (t u v : Tok) : Obj := { cls := .type "range", data := .fields #[.int a t, .int b u, .int c v] }
noncomputable def SeqAt (T : String) (g : Fz) (a : Addr) (vs : List Value) : Prop := ∃ o, g a = some o ∧ o.cls = .type T ∧ ∃ n, o.data = .seq vs.toArray n

mutual
noncomputable def Rep (g : Fz) : PV → Value → Prop
  | .none, v => v = .none
  | .bool b, v => v = .bool b
  | .int i, v => ∃ t, v = .int i t
  | .bytes b, v => ∃ t, v = .bytes b.toArray t
  | .barr b, v => ∃ a, v = .ref a ∧ g a = some (barrObj b)
  | .list ps, v => ∃ a vs, v = .ref a ∧ SeqAt "list" g a vs ∧ Reps g ps vs
  | .tup ps, v => ∃ a vs, v = .ref a ∧ SeqAt "tuple" g a vs ∧ Reps g ps vs
  | .rng a b c, v => ∃ r t u w, v = .ref r ∧ g r = some (rngObj a b c t u w)
noncomputable def Reps (g : Fz) : List PV → List Value → Prop
  | [], vs => vs = []
  | p :: ps, vs => ∃ v r, vs = v :: r ∧ Rep g p v ∧ Reps g ps r
end

theorem SeqAt.mono {T : String} {g g' : Fz} {a : Addr} {vs : List Value} (x : SeqAt T g a vs) (l : Le g g') : SeqAt T g' a vs := let ⟨o, e, r⟩ := x; ⟨o, l _ _ e, r⟩
mutual
theorem Rep.mono {g g' : Fz} (l : Le g g') : ∀ (p : PV) {v : Value}, Rep g p v → Rep g' p v
  | .none, _, h => by simpa [Rep] using h
  | .bool _, _, h => by simpa [Rep] using h
  | .int _, _, h => by simpa [Rep] using h
  | .bytes _, _, h => by simpa [Rep] using h
  | .barr _, _, h => by
    simp only [Rep] at h ⊢
    obtain ⟨a, e, k⟩ := h
    exact ⟨a, e, l _ _ k⟩
  | .list ps, _, h => by
    simp only [Rep] at h ⊢
    obtain ⟨a, vs, e, k, r⟩ := h
    exact ⟨a, vs, e, k.mono l, Reps.mono l ps r⟩
  | .tup ps, _, h => by
    simp only [Rep] at h ⊢
    obtain ⟨a, vs, e, k, r⟩ := h
    exact ⟨a, vs, e, k.mono l, Reps.mono l ps r⟩
  | .rng _ _ _, _, h => by
    simp only [Rep] at h ⊢
    obtain ⟨a, t, u, w, e, k⟩ := h
    exact ⟨a, t, u, w, e, l _ _ k⟩
theorem Reps.mono {g g' : Fz} (l : Le g g') : ∀ (ps : List PV) {vs : List Value}, Reps g ps vs → Reps g' ps vs
  | [], _, h => by simpa [Reps] using h
  | p :: ps, _, h => by
    simp only [Reps] at h ⊢
    obtain ⟨v, r, e, k, m⟩ := h
    exact ⟨v, r, e, Rep.mono l p k, Reps.mono l ps m⟩
end
theorem Reps.len {g : Fz} : ∀ {ps : List PV} {vs : List Value}, Reps g ps vs → vs.length = ps.length
  | [], _, h => by simp only [Reps] at h; subst h; rfl
  | p :: ps, _, h => by
    simp only [Reps] at h
    obtain ⟨v, r, rfl, _, m⟩ := h
    simp [Reps.len m]
theorem Reps.app {g : Fz} : ∀ {ps qs : List PV} {vs us : List Value}, Reps g ps vs → Reps g qs us → Reps g (ps ++ qs) (vs ++ us)
  | [], _, _, _, h, k => by simp only [Reps] at h; subst h; simpa using k
  | p :: ps, _, _, _, h, k => by
    simp only [Reps] at h
    obtain ⟨v, r, rfl, e, m⟩ := h
    simp only [List.cons_append, Reps]
    exact ⟨v, _, rfl, e, Reps.app m k⟩
theorem Reps.one {g : Fz} {p : PV} {v : Value} (h : Rep g p v) : Reps g [p] [v] := by
  simp only [Reps]; exact ⟨v, [], rfl, h, rfl⟩
theorem Reps.get {g : Fz} : ∀ {ps : List PV} {vs : List Value}, Reps g ps vs → ∀ {i : Nat} {p : PV}, ps[i]? = some p → ∃ v, vs[i]? = some v ∧ Rep g p v
  | [], _, _, i, p, e => by simp at e
  | p :: ps, _, h, i, q, e => by
    simp only [Reps] at h
    obtain ⟨v, r, rfl, k, m⟩ := h
    cases i with
    | zero => simp at e; subst e; exact ⟨v, rfl, k⟩
    | succ i => simpa using Reps.get m (by simpa using e)
theorem Reps.drop {g : Fz} : ∀ {ps : List PV} {vs : List Value} (n : Nat), Reps g ps vs → Reps g (ps.drop n) (vs.drop n)
  | ps, vs, 0, h => by simpa using h
  | [], _, n + 1, h => by simp only [Reps] at h; subst h; simp [Reps]
  | p :: ps, _, n + 1, h => by
    simp only [Reps] at h
    obtain ⟨v, r, rfl, k, m⟩ := h
    simpa using Reps.drop n m
theorem Reps.take {g : Fz} : ∀ {ps : List PV} {vs : List Value} (n : Nat), Reps g ps vs → Reps g (ps.take n) (vs.take n)
  | ps, vs, 0, _ => by simp [Reps]
  | [], _, n + 1, h => by simp only [Reps] at h; subst h; simp [Reps]
  | p :: ps, _, n + 1, h => by
    simp only [Reps] at h
    obtain ⟨v, r, rfl, k, m⟩ := h
    simp only [List.take_succ_cons, Reps]
    exact ⟨v, _, rfl, k, Reps.take n m⟩
theorem Reps.nil {g : Fz} : Reps g [] [] := by simp [Reps]
theorem Reps.cons {g : Fz} {p : PV} {ps : List PV} {v : Value} {vs : List Value} (h : Rep g p v) (k : Reps g ps vs) : Reps g (p :: ps) (v :: vs) := by
  simp only [Reps]; exact ⟨v, vs, rfl, h, k⟩

/-- only heap and tokens moved -/
noncomputable def Same (s s' : Shared) : Prop := s'.gens = s.gens ∧ s'.drawn = s.drawn ∧ s'.os = s.os
theorem Same.refl (s : Shared) : Same s s := ⟨rfl, rfl, rfl⟩
theorem Same.trans {s s' s'' : Shared} (x : Same s s') (y : Same s' s'') : Same s s'' := ⟨y.1.trans x.1, y.2.1.trans x.2.1, y.2.2.trans x.2.2⟩

/-- what an expression may do: the heap grows, the frozen part grows by what is new -/
structure Grow (s : Shared) (g : Fz) (s' : Shared) (g' : Fz) : Prop where
  same : Same s s'
  ext : Ext s.heap s'.heap
  le : Le g g'
  sub : Sub g' s'.heap
  new : ∀ b o, g' b = some o → g b = some o ∨ s.heap.get? b = none
theorem Grow.refl {s : Shared} {g : Fz} (h : Sub g s.heap) : Grow s g s g := ⟨.refl _, .refl _, .refl _, h, fun _ _ e => .inl e⟩
theorem Grow.trans {s s' s'' : Shared} {g g' g'' : Fz} (x : Grow s g s' g') (y : Grow s' g' s'' g'') : Grow s g s'' g'' :=
  ⟨x.same.trans y.same, x.ext.trans y.ext, x.le.trans y.le, y.sub, fun b o e => by
    rcases y.new b o e with h | h
    · exact x.new b o h
    · refine .inr ?_
      cases q : s.heap.get? b with
      | none => rfl
      | some o' => rw [x.ext b o' q] at h; cases h⟩

/-- all that is new is frozen -/
noncomputable def grown (h : Heap) (g : Fz) (h' : Heap) : Fz := fun b => match h.get? b with | some _ => g b | none => h'.get? b
theorem grow_of {s s' : Shared} {g : Fz} (h : Sub g s.heap) (sm : Same s s') (e : Ext s.heap s'.heap) : Grow s g s' (grown s.heap g s'.heap) where
  same := sm
  ext := e
  le := fun b o q => by unfold grown; rw [h b o q]; exact q
  sub := fun b o q => by
    unfold grown at q
    cases k : s.heap.get? b with
    | none => rw [k] at q; exact q
    | some o' => rw [k] at q; exact e b o (h b o q)
  new := fun b o q => by
    unfold grown at q
    cases k : s.heap.get? b with
    | none => exact .inr rfl
    | some o' => rw [k] at q; exact .inl q
theorem grown_new {h h' : Heap} {g : Fz} {a : Addr} {o : Obj} (n : h.get? a = none) (e : h'.get? a = some o) : grown h g h' a = some o := by unfold grown; rw [n]; exact e
theorem get_size (h : Heap) : h.get? h.objs.size = none := by
  cases q : h.get? h.objs.size with
  | none => rfl
  | some o => exact absurd (Heap.lt_size q) (Nat.lt_irrefl _)
end Mine
end
section
open PySem PySem.W PyProof.Rows
set_option Elab.async false
set_option maxRecDepth 100000
namespace Mine

inductive Ent where
  | val (p : PV)
  | lst (ps : List PV)
  | arr (b : List UInt8)
  | zip (xs ys : List PV)

structure Fm where
  names : List (Str × NameKind)
  vars : List (Str × Ent)

noncomputable def lookE : List (Str × Ent) → Str → Option Ent
  | [], _ => none
  | (y, e) :: r, x => if x = y then some e else lookE r x
noncomputable def setE : List (Str × Ent) → Str → Ent → List (Str × Ent)
  | [], x, e => [(x, e)]
  | (y, f) :: r, x, e => if x = y then (y, e) :: r else (y, f) :: setE r x e
noncomputable def delE : List (Str × Ent) → Str → List (Str × Ent)
  | [], _ => []
  | (y, f) :: r, x => if x = y then delE r x else (y, f) :: delE r x
noncomputable def frz : Ent → Ent
  | .lst ps => .val (.list ps)
  | .arr b => .val (.barr b)
  | e => e
noncomputable def frzAll : List (Str × Ent) → List (Str × Ent)
  | [] => []
  | (y, e) :: r => (y, frz e) :: frzAll r

noncomputable def Fm.kind (fm : Fm) (x : Str) : Option NameKind := fm.names.lookup x
noncomputable def Fm.get (fm : Fm) (x : Str) : Option Ent := lookE fm.vars x
noncomputable def storable : Option NameKind → Bool
  | some .local => true
  | some .cell => true
  | _ => false
noncomputable def loadable : Option NameKind → Bool
  | some .local => true
  | some .cell => true
  | some .free => true
  | _ => false
noncomputable def isGlob : Option NameKind → Bool
  | some .globalImplicit => true
  | _ => false
noncomputable def Fm.set (fm : Fm) (x : Str) (e : Ent) : Option Fm := if storable (fm.kind x) = true then some ⟨fm.names, setE fm.vars x e⟩ else none
noncomputable def Fm.frz (fm : Fm) : Fm := ⟨fm.names, frzAll fm.vars⟩

noncomputable def mapO {α β : Type} (f : α → Option β) : List α → Option (List β)
  | [] => some []
  | a :: r => match f a with
    | none => none
    | some b => match mapO f r with
      | none => none
      | some bs => some (b :: bs)

noncomputable def smallI (i : Int) : Bool := decide (-4611686018427387904 ≤ i) && decide (i < 4611686018427387904)
noncomputable def asInt : PV → Option Int
  | .int i => some i
  | _ => none
noncomputable def asInts (ps : List PV) : Option (List Int) := mapO asInt ps
noncomputable def asByte : PV → Option UInt8
  | .int i => if 0 ≤ i ∧ i < 256 then some i.toNat.toUInt8 else none
  | _ => none
noncomputable def asBytes : PV → Option (List UInt8)
  | .bytes b => some b
  | _ => none
noncomputable abbrev lim : Nat := 100000

noncomputable def binop : Operator → PV → PV → Option PV
  | .Add, .int a, .int b => some (.int (a + b))
  | .Sub, .int a, .int b => some (.int (a - b))
  | .Mult, .int a, .int b => if smallI b = true ∨ smallI a = true then some (.int (a * b)) else none
  | .FloorDiv, .int a, .int b => if b ≠ 0 ∧ smallI b = true then some (.int (a.fdiv b)) else none
  | .Mod, .int a, .int b => if b ≠ 0 then some (.int (a.fmod b)) else none
  | .Pow, .int a, .int n => if 0 ≤ n ∧ n ≤ 1000 ∧ smallI a = true then some (.int (a ^ n.toNat)) else none
  | .Add, .list xs, .list ys => if xs.length + ys.length ≤ lim then some (.list (xs ++ ys)) else none
  | .Add, .bytes x, .bytes y => if x.length + y.length ≤ lim then some (.bytes (x ++ y)) else none
  | .Mult, .list xs, .int n => if 0 ≤ n ∧ n ≤ 100 ∧ xs.length ≤ 100 then some (.list (List.replicate n.toNat xs).flatten) else none
  | _, _, _ => none

noncomputable def cmpop : CmpOp → PV → PV → Option Bool
  | .Eq, .int a, .int b => some (a == b)
  | .NotEq, .int a, .int b => some (a != b)
  | .Lt, .int a, .int b => some (decide (a < b))
  | .LtE, .int a, .int b => some (decide (a ≤ b))
  | .Gt, .int a, .int b => some (decide (a > b))
  | .GtE, .int a, .int b => some (decide (a ≥ b))
  | .Eq, .bytes a, .bytes b => some (a == b)
  | .NotEq, .bytes a, .bytes b => some (a != b)
  | .Eq, .list xs, .list ys => match asInts xs, asInts ys with
    | some a, some b => some (decide (a = b))
    | _, _ => none
  | .NotEq, .list xs, .list ys => match asInts xs, asInts ys with
    | some a, some b => some (!decide (a = b))
    | _, _ => none
  | _, _, _ => none

noncomputable def clampN (i : Int) (n : Nat) : Nat := if i < 0 then (i + n).toNat else min i.toNat n
noncomputable def loN (lo : Option Int) (n : Nat) : Nat := match lo with | none => 0 | some i => clampN i n
noncomputable def hiN (hi : Option Int) (n : Nat) : Nat := match hi with | none => n | some i => clampN i n
noncomputable def sliceL {α : Type} (xs : List α) (lo hi : Option Int) : List α := (xs.drop (loN lo xs.length)).take (hiN hi xs.length - loN lo xs.length)
noncomputable def indexL {α : Type} (xs : List α) (i : Int) : Option α := if 0 ≤ i then xs[i.toNat]? else if 0 ≤ i + xs.length then xs[(i + xs.length).toNat]? else none

noncomputable def subscr : PV → PV → Option PV
  | .list xs, .int i => if smallI i = true ∧ xs.length ≤ lim then indexL xs i else none
  | .bytes b, .int i => if smallI i = true ∧ b.length ≤ lim then (indexL b i).map fun c => .int c.toNat else none
  | _, _ => none
noncomputable def slicing : PV → Option Int → Option Int → Option PV
  | .list xs, lo, hi => if xs.length ≤ lim then some (.list (sliceL xs lo hi)) else none
  | .bytes b, lo, hi => if b.length ≤ lim then some (.bytes (sliceL b lo hi)) else none
  | _, _, _ => none

noncomputable def rangeLen (a b c : Int) : Nat := (Builtin.Range.rangeSize a b c).toNat
noncomputable def rangeItems (a c : Int) : Nat → List PV
  | n => (List.range n).map fun i : Nat => .int (a + (i : Int) * c)
noncomputable def items : PV → Option (List PV)
  | .list ps => if ps.length ≤ lim then some ps else none
  | .tup ps => if ps.length ≤ lim then some ps else none
  | .rng a b c => if smallI a = true ∧ smallI b = true ∧ 0 < c ∧ smallI c = true ∧ rangeLen a b c ≤ lim then some (rangeItems a c (rangeLen a b c)) else none
  | _ => none

noncomputable def insI (a : Int) : List Int → List Int
  | [] => [a]
  | b :: r => if a ≤ b then a :: b :: r else b :: insI a r
noncomputable def sortI : List Int → List Int
  | [] => []
  | a :: r => insI a (sortI r)
noncomputable def maxL : List Int → Option Int
  | [] => none
  | a :: r => some (r.foldl (fun m x => if x > m then x else m) a)
noncomputable def minL : List Int → Option Int
  | [] => none
  | a :: r => some (r.foldl (fun m x => if x < m then x else m) a)
noncomputable def intVals (is : List Int) : List PV := is.map PV.int
noncomputable def bytesInts (b : List UInt8) : List PV := b.map fun c => PV.int c.toNat

noncomputable def bcall (f : Str) (vs : List PV) : Option PV :=
  if f = ("len" : Str) then match vs with
    | [.list ps] => if ps.length ≤ lim then some (.int ps.length) else none
    | [.bytes b] => if b.length ≤ lim then some (.int b.length) else none
    | _ => none
  else if f = ("range" : Str) then match vs with
    | [.int n] => some (.rng 0 n 1)
    | [.int a, .int b] => some (.rng a b 1)
    | [.int a, .int b, .int c] => if c ≠ 0 ∧ smallI c = true then some (.rng a b c) else none
    | _ => none
  else if f = ("bytes" : Str) then match vs with
    | [.list ps] => if ps.length ≤ lim then (mapO asByte ps).map PV.bytes else none
    | [.barr b] => if b.length ≤ lim then some (.bytes b) else none
    | _ => none
  else if f = ("list" : Str) then match vs with
    | [.bytes b] => if b.length ≤ lim then some (.list (bytesInts b)) else none
    | _ => none
  else if f = ("sum" : Str) then match vs with
    | [.list ps] => if ps.length ≤ lim then (asInts ps).map fun is => .int is.sum else none
    | _ => none
  else if f = ("abs" : Str) then match vs with
    | [.int a] => some (.int (if a < 0 then -a else a))
    | _ => none
  else if f = ("max" : Str) then match vs with
    | [.int a, .int b] => some (.int (if b > a then b else a))
    | [.list ps] => if ps.length ≤ lim then ((asInts ps).bind maxL).map .int else none
    | _ => none
  else if f = ("min" : Str) then match vs with
    | [.int a, .int b] => some (.int (if b < a then b else a))
    | [.list ps] => if ps.length ≤ lim then ((asInts ps).bind minL).map .int else none
    | _ => none
  else if f = ("sorted" : Str) then match vs with
    | [.list ps] => if ps.length < 64 then (asInts ps).map fun is => .list (intVals (sortI is)) else none
    | _ => none
  else if f = ("int" : Str) then match vs with
    | [.int a] => some (.int a)
    | _ => none
  else none

noncomputable abbrev EV := Fm → Expr → Option PV
noncomputable abbrev TV := Fm → Expr → Option Bool
noncomputable abbrev CL := Str → List PV → Option PV

noncomputable def notSet : Expr → Bool
  | .Set .. => false
  | _ => true
noncomputable def noStar : Expr → Bool
  | .Starred .. => false
  | _ => true
noncomputable def evArgs (ev : EV) (fm : Fm) (es : List Expr) : Option (List PV) := if es.all noStar = true then mapO (ev fm) es else none

noncomputable def zips (xs ys : List PV) : List PV := (xs.zip ys).map fun p => .tup [p.1, p.2]
noncomputable def listOf? : PV → Option (List PV)
  | .list xs => if xs.length ≤ lim then some xs else none
  | _ => none
/-- the items that a loop's source gives -/
noncomputable def isNm : Expr → Bool
  | .Name _ _ => true
  | _ => false
noncomputable def isTwo : List Expr → Bool
  | [a, b] => isNm a && isNm b
  | _ => false
noncomputable def isTupE : Expr → Bool
  | .Tuple es _ _ => isTwo es
  | _ => false
noncomputable def isTupP : PV → Bool
  | .tup _ => true
  | _ => false
noncomputable def okItems (tgt : Expr) (its : List PV) : Bool := !isTupE tgt || its.all isTupP
noncomputable def guardI (tgt : Expr) (its : List PV) : Option (List PV) := if okItems tgt its = true then some its else none
noncomputable def iterP (ev : EV) (tgt : Expr) (fm : Fm) : Expr → Option (List PV)
  | .Call (.Name z zp) [a, b] [] pos => if z = ("zip" : Str) then
      (if isTupE tgt = true ∧ isGlob (fm.kind z) = true ∧ noStar a = true ∧ noStar b = true then
        match ev fm a, ev fm b with
        | some (.list xs), some (.list ys) => if xs.length ≤ lim ∧ ys.length ≤ lim then some (zips xs ys) else none
        | _, _ => none
      else none)
    else ((ev fm (.Call (.Name z zp) [a, b] [] pos)).bind items).bind (guardI tgt)
  | e => if notSet e = true then ((ev fm e).bind items).bind (guardI tgt) else none

noncomputable def nmOf : Expr → Option Str
  | .Name x _ => some x
  | _ => none
noncomputable def pairOf : PV → Option (PV × PV)
  | .tup [a, b] => some (a, b)
  | _ => none
noncomputable def twoOf : List Expr → Option (Str × Str)
  | [a, b] => (nmOf a).bind fun x => (nmOf b).map fun y => (x, y)
  | _ => none
noncomputable def bindT : Expr → PV → Fm → Option Fm
  | .Name x _, v, fm => fm.set x (.val v)
  | .Tuple es _ _, v, fm => (twoOf es).bind fun n => (pairOf v).bind fun q => (fm.set n.1 (.val q.1)).bind fun fm => fm.set n.2 (.val q.2)
  | _, _, _ => none

noncomputable def freshT : Expr → Fm → Bool
  | .Name x _, fm => (fm.get x).isNone
  | .Tuple es _ _, fm => (match twoOf es with | some n => (fm.get n.1).isNone && (fm.get n.2).isNone && n.1 != n.2 | none => false)
  | _, _ => false
noncomputable def compL (ev : EV) (elt : Expr) : List Comprehension → Fm → List PV → Option (List PV)
  | [], _, _ => none
  | ⟨tgt, _, ifs, as⟩ :: rest, fm, its =>
    if ifs.isEmpty = true ∧ as = 0 ∧ freshT tgt fm = true then
      match rest with
      | [] => mapO (fun v => (bindT tgt v fm).bind fun fm' => ev fm' elt) its
      | ⟨t₂, i₂, f₂, a₂⟩ :: rest' => if a₂ = 0 ∧ notSet i₂ = true then
          (mapO (fun v => (bindT tgt v fm).bind fun fm' => (iterP ev t₂ fm' i₂).bind fun its' => compL ev elt (⟨t₂, i₂, f₂, a₂⟩ :: rest') fm' its') its).map List.flatten
        else none
    else none

/-- what a comprehension's own frame begins with: the names that it catches -/
noncomputable def caught (names : List (Str × NameKind)) (fm : Fm) : List (Str × NameKind) → List (Str × Ent)
  | [] => []
  | (x, .free) :: r => match names.lookup x, fm.get x with
    | some .free, some (.val p) => (x, .val p) :: caught names fm r
    | _, _ => caught names fm r
  | _ :: r => caught names fm r
noncomputable def compFm (scope : Scope) (fm : Fm) : Fm := ⟨scope.names, caught scope.names fm scope.names⟩
noncomputable def scopeOk (fm : Fm) (scope : Scope) : Bool :=
  scope.kind == .function && scope.names.all (fun p => p.1 != (".acc" : Str) && p.1 != ("__debug__" : Str)) &&
  scope.names.all fun p => (p.2 != .local || scope.names.lookup p.1 == some .local) && (p.2 != .cell || scope.names.lookup p.1 == some .cell) && (p.2 != .free || (fm.kind p.1 == some .cell || fm.kind p.1 == some .free))
noncomputable def comp (ev : EV) (fm : Fm) (elt : Expr) (gens : List Comprehension) (scope : Scope) : Option (List PV) :=
  match gens with
  | [] => none
  | ⟨tgt, it, ifs, as⟩ :: rest => if scopeOk fm scope = true ∧ as = 0 ∧ notSet it = true then
      (iterP ev tgt fm it).bind fun its => (compL ev elt (⟨tgt, it, ifs, as⟩ :: rest) (compFm scope fm) its).bind fun ps => if ps.length ≤ lim then some ps else none
    else none

noncomputable def optI (ev : EV) (fm : Fm) : Option Expr → Option (Option Int)
  | none => some none
  | some e => match ev fm e with
    | some (.int i) => some (some i)
    | _ => none

noncomputable def isNilC : Const → Bool
  | .bytes b => b.isEmpty
  | _ => false
noncomputable def isNilE : Expr → Bool
  | .Constant c _ _ => isNilC c
  | _ => false
noncomputable def notSlice : Expr → Bool
  | .Slice .. => false
  | _ => true
noncomputable def stepE (fns : Str → Bool) (cl : CL) (ev : EV) (tr : TV) (fm : Fm) : Expr → Option PV
  | .Constant (.int i) _ _ => some (.int i)
  | .Constant (.bool b) _ _ => some (.bool b)
  | .Constant .none _ _ => some .none
  | .Constant (.bytes b) _ _ => some (.bytes b)
  | .Name x _ => if loadable (fm.kind x) = true ∧ x ≠ ("__debug__" : Str) then (match fm.get x with | some (.val p) => some p | _ => none) else none
  | .BinOp l op r _ => (ev fm l).bind fun a => (ev fm r).bind fun b => binop op a b
  | .UnaryOp .USub e _ => match ev fm e with
    | some (.int i) => some (.int (-i))
    | _ => none
  | .UnaryOp .Not e _ => match ev fm e with
    | some (.bool b) => some (.bool (!b))
    | _ => none
  | .Compare l [op] [r] _ => (ev fm l).bind fun a => (ev fm r).bind fun b => (cmpop op a b).map PV.bool
  | .BoolOp .And [a, b] _ => match ev fm a with
    | some (.bool true) => ev fm b
    | some (.bool false) => some (.bool false)
    | _ => none
  | .BoolOp .Or [a, b] _ => match ev fm a with
    | some (.bool false) => ev fm b
    | some (.bool true) => some (.bool true)
    | _ => none
  | .IfExp t a b _ => match tr fm t with
    | some true => ev fm a
    | some false => ev fm b
    | none => none
  | .List es _ => (evArgs ev fm es).bind fun vs => if vs.length ≤ lim then some (.list vs) else none
  | .Tuple es _ _ => (evArgs ev fm es).bind fun vs => if vs.length ≤ lim then some (.tup vs) else none
  | .Subscript v (.Slice lo hi none _) _ => (ev fm v).bind fun o => (optI ev fm lo).bind fun l => (optI ev fm hi).bind fun h => slicing o l h
  | .Subscript v i _ => if notSlice i = true then (ev fm v).bind fun o => (ev fm i).bind fun k => subscr o k else none
  | .Call (.Name f _) es [] _ =>
    if isGlob (fm.kind f) = true ∧ f ≠ ("__debug__" : Str) then
      if f = ("isinstance" : Str) then match es with
        | [e, .Name b _] => if b = ("bytes" : Str) ∧ isGlob (fm.kind b) = true ∧ noStar e = true then (match ev fm e with | some (.bytes _) => some (.bool true) | _ => none) else none
        | _ => none
      else if es.length ≤ 20 ∧ es ≠ [] then (evArgs ev fm es).bind fun vs => if fns f = true then cl f vs else bcall f vs else none
    else none
  | .ListComp elt gens scope _ => (comp ev fm elt gens scope).map PV.list
  | _ => none

noncomputable def trAnd (tr : TV) (fm : Fm) : List Expr → Option Bool
  | [] => some true
  | e :: r => match tr fm e with
    | some true => trAnd tr fm r
    | some false => some false
    | none => none
noncomputable def trOr (tr : TV) (fm : Fm) : List Expr → Option Bool
  | [] => some false
  | e :: r => match tr fm e with
    | some false => trOr tr fm r
    | some true => some true
    | none => none
noncomputable def stepT (ev : EV) (tr : TV) (fm : Fm) : Expr → Option Bool
  | .UnaryOp .Not e _ => (tr fm e).map not
  | .BoolOp .And vs _ => trAnd tr fm vs
  | .BoolOp .Or vs _ => trOr tr fm vs
  | .Compare l [op] [r] p => match ev fm (.Compare l [op] [r] p) with
    | some (.bool b) => some b
    | _ => none
  | .Call f as ks p => match ev fm (.Call f as ks p) with
    | some (.bool b) => some b
    | _ => none
  | _ => none

inductive Fl where
  | next
  | ret (p : PV)

noncomputable abbrev XV := Fm → List Stmt → Option (Fm × Fl)

noncomputable def notComp : Expr → Bool
  | .ListComp .. => false
  | .SetComp .. => false
  | .DictComp .. => false
  | _ => true

/-- an expression as it stands, or with every own list frozen -/
noncomputable def evz (ev : EV) (fm : Fm) (e : Expr) : Option (Fm × PV) := match ev fm e with
  | some p => some (fm, p)
  | none => (ev fm.frz e).map fun p => (fm.frz, p)
noncomputable def iterz (ev : EV) (tgt : Expr) (fm : Fm) (e : Expr) : Option (Fm × List PV) := match iterP ev tgt fm e with
  | some p => some (fm, p)
  | none => (iterP ev tgt fm.frz e).map fun p => (fm.frz, p)

noncomputable def forL (ex : XV) (tgt : Expr) (body : List Stmt) : List PV → Fm → Option (Fm × Fl)
  | [], fm => some (fm, .next)
  | v :: r, fm => match bindT tgt v fm with
    | none => none
    | some fm' => match ex fm' body with
      | none => none
      | some (fm'', .ret p) => some (fm'', .ret p)
      | some (fm'', .next) => forL ex tgt body r fm''
noncomputable def whileL (tr : TV) (ex : XV) (test : Expr) (body : List Stmt) : Nat → Fm → Option (Fm × Fl)
  | 0, _ => none
  | n + 1, fm => match tr fm test with
    | none => none
    | some false => some (fm, .next)
    | some true => match ex fm body with
      | none => none
      | some (fm', .ret p) => some (fm', .ret p)
      | some (fm', .next) => whileL tr ex test body n fm'

noncomputable def assignV (ev : EV) (fm : Fm) (x : Str) : Expr → Option (Fm × Fl)
  | .List [] _ => (fm.set x (.lst [])).map fun fm => (fm, .next)
  | .Call (.Name f fp) [a] [] pos => if f = ("bytearray" : Str) then
      (if isGlob (fm.kind f) = true ∧ noStar a = true then match ev fm a with
        | some (.int n) => if 0 ≤ n ∧ n ≤ 100000 then (fm.set x (.arr (List.replicate n.toNat 0))).map fun fm => (fm, .next) else none
        | _ => none
      else none)
    else (evz ev fm (.Call (.Name f fp) [a] [] pos)).bind fun r => (r.1.set x (.val r.2)).map fun fm => (fm, .next)
  | .Call (.Name f fp) [a, b] [] pos => if f = ("zip" : Str) then
      (if isGlob (fm.kind f) = true ∧ noStar a = true ∧ noStar b = true then match ev fm a, ev fm b with
        | some (.list xs), some (.list ys) => if xs.length ≤ lim ∧ ys.length ≤ lim then (fm.set x (.zip xs ys)).map fun fm => (fm, .next) else none
        | _, _ => none
      else none)
    else (evz ev fm (.Call (.Name f fp) [a, b] [] pos)).bind fun r => (r.1.set x (.val r.2)).map fun fm => (fm, .next)
  | e => if notComp e = true then (evz ev fm e).bind fun r => (r.1.set x (.val r.2)).map fun fm => (fm, .next) else none

noncomputable def assignC (ev : EV) (fm : Fm) (x : Str) (elt : Expr) (gens : List Comprehension) (scope : Scope) : Option (Fm × Fl) :=
  match gens with
  | [⟨tgt, .Name p pp, ifs, as⟩] => match fm.get p with
    | some (.zip xs ys) => if isTupE tgt = true ∧ loadable (fm.kind p) = true ∧ scopeOk fm scope = true ∧ as = 0 ∧ p ≠ ("__debug__" : Str) ∧ scope.names.lookup p ≠ some .free then
        (compL ev elt [⟨tgt, .Name p pp, ifs, as⟩] (compFm scope ⟨fm.names, delE fm.vars p⟩) (zips xs ys)).bind fun ps => if ps.length ≤ lim then
          ((⟨fm.names, delE fm.vars p⟩ : Fm).set x (.val (.list ps))).map fun fm => (fm, .next) else none
      else none
    | _ => (comp ev fm elt gens scope).bind fun ps => (fm.set x (.val (.list ps))).map fun fm => (fm, .next)
  | gens => (comp ev fm elt gens scope).bind fun ps => (fm.set x (.val (.list ps))).map fun fm => (fm, .next)

noncomputable def stepS (ev : EV) (tr : TV) (ex : XV) (n : Nat) (fm : Fm) : Stmt → Option (Fm × Fl)
  | .Assign [.Name x _] (.ListComp elt gens scope _) _ => assignC ev fm x elt gens scope
  | .Assign [.Name x _] e _ => assignV ev fm x e
  | .Assign [.Subscript (.Name x _) i _] e _ => if loadable (fm.kind x) = true ∧ x ≠ ("__debug__" : Str) ∧ notComp e = true then
      match fm.get x, ev fm e, ev fm i with
      | some (.arr b), some (.int v), some (.int k) => if 0 ≤ v ∧ v < 256 ∧ 0 ≤ k ∧ k < b.length ∧ b.length ≤ lim then
          some (⟨fm.names, setE fm.vars x (.arr (b.set k.toNat v.toNat.toUInt8))⟩, .next) else none
      | _, _, _ => none
    else none
  | .AugAssign (.Name x _) op e _ => if loadable (fm.kind x) = true then
      match fm.get x with
      | some (.val (.int a)) => match ev fm e with
        | some (.int b) => match op with
          | .Add | .Sub | .FloorDiv => (binop op (.int a) (.int b)).bind fun r => (fm.set x (.val r)).map fun fm => (fm, .next)
          | _ => none
        | _ => none
      | _ => none
    else none
  | .Expr (.Call (.Attribute (.Name x xp) m ap) [e] [] cp) ep => if loadable (fm.kind x) = true ∧ x ≠ ("__debug__" : Str) ∧ m = ("append" : Str) ∧ noStar e = true ∧ (ap.endLine == cp.line) = true then
      match fm.get x, ev fm e with
      | some (.lst ps), some p => if ps.length ≤ lim then some (⟨fm.names, setE fm.vars x (.lst (ps ++ [p]))⟩, .next) else none
      | _, _ => none
    else none
  | .For tgt it body [] _ => (iterz ev tgt fm it).bind fun r => forL ex tgt body r.2 r.1
  | .While t body [] _ => whileL tr ex t body n fm
  | .If t a b _ => match tr fm t with
    | some true => ex fm a
    | some false => ex fm b
    | none => none
  | .Return (some e) _ => (evz ev fm e).map fun r => (r.1, .ret r.2)
  | _ => none

noncomputable def stepL (ss : Fm → Stmt → Option (Fm × Fl)) : List Stmt → Fm → Option (Fm × Fl)
  | [], fm => some (fm, .next)
  | st :: r, fm => match ss fm st with
    | none => none
    | some (fm', .ret p) => some (fm', .ret p)
    | some (fm', .next) => stepL ss r fm'

structure Def where
  params : List Str
  body : List Stmt
  scope : Scope

noncomputable def callD (ex : XV) (d : Def) (vs : List PV) : Option PV :=
  if vs.length = d.params.length then match ex ⟨d.scope.names, d.params.zip (vs.map Ent.val)⟩ d.body with
    | some (_, .ret p) => some p
    | some (_, .next) => some .none
    | none => none
  else none

structure All where
  ev : EV
  tr : TV
  ex : XV
  cl : CL
noncomputable def interp (fns : Str → Option Def) : Nat → All
  | 0 => ⟨fun _ _ => none, fun _ _ => none, fun _ _ => none, fun _ _ => none⟩
  | n + 1 => {
      ev := stepE (fun f => (fns f).isSome) (interp fns n).cl (interp fns n).ev (interp fns n).tr
      tr := stepT (interp fns n).ev (interp fns n).tr
      ex := fun fm b => stepL (stepS (interp fns n).ev (interp fns n).tr (interp fns n).ex n) b fm
      cl := fun f vs => match fns f with
        | some d => callD (interp fns n).ex d vs
        | none => none }
end Mine
end
section
open PySem PySem.W PyProof.Rows
set_option Elab.async false
set_option maxRecDepth 100000
namespace Mine

/-- a change of the heap that spares all but T -/
noncomputable def Keep (T : Addr → Prop) (h h' : Heap) : Prop := ∀ b o, ¬ T b → h.get? b = some o → h'.get? b = some o
theorem Ext.keep {h h' : Heap} (x : Ext h h') (T : Addr → Prop) : Keep T h h' := fun b o _ e => x b o e
theorem Keep.same {a : Addr} {h h' : Heap} (x : Heap.SameBut a h h') : Keep (fun b => b = a) h h' := fun b o n e => x.extBut b o n e

noncomputable def KindOk (env : Env) (x : Str) : NameKind → Prop
  | .free => env.kindOf x = some .cell
  | k => env.kindOf x = some k

noncomputable def Holds (env : Env) (h : Heap) (x : Str) (v : Value) : Option NameKind → Prop
  | some .local => ∃ m, h.Ns env.locals m ∧ m x = some v
  | some .cell => ∃ c, env.cells.lookup x = some c ∧ h.IsCell c (some v)
  | some .free => ∃ c, env.cells.lookup x = some c ∧ h.IsCell c (some v)
  | _ => True

structure ZipAt (h : Heap) (g : Fz) (I : Addr) (xs ys : List PV) (l1 l2 : Addr) (vs us : List Value) : Prop where
  z : IsZip h (I + 4) (I + 2) (I + 3) .none
  ti : IsPair h (I + 2) (.ref I) (.ref (I + 1))
  to : IsPair h (I + 3) .none .none
  i1 : h.IsListIter I l1 0
  i2 : h.IsListIter (I + 1) l2 0
  a1 : SeqAt "list" g l1 vs
  a2 : SeqAt "list" g l2 us
  r1 : Reps g xs vs
  r2 : Reps g ys us

noncomputable def EntRep (h : Heap) (g : Fz) : Ent → Value → Prop
  | .val p, v => Rep g p v
  | .lst ps, v => ∃ a vs, v = .ref a ∧ h.PlainList a vs.toArray ∧ Reps g ps vs
  | .arr b, v => ∃ a, v = .ref a ∧ h.get? a = some (barrObj b)
  | .zip xs ys, v => ∃ I l1 l2 vs us, v = .ref (I + 4) ∧ ZipAt h g I xs ys l1 l2 vs us

noncomputable def OwnAt : Ent → Value → Addr → Prop
  | .val _, _, _ => False
  | .lst _, v, b => v = .ref b
  | .arr _, v, b => v = .ref b
  | .zip _ _, v, b => ∃ I : Nat, v = .ref (I + 4) ∧ (b = I ∨ b = I + 1 ∨ b = I + 2 ∨ b = I + 3 ∨ b = I + 4)

theorem Holds.keep {env : Env} {h h' : Heap} {x : Str} {v : Value} {k : Option NameKind} {T : Addr → Prop} (H : Holds env h x v k) (kp : Keep T h h') (hl : k = some .local → ¬ T env.locals)
    (hc : ∀ c w, env.cells.lookup x = some c → h.IsCell c w → ¬ T c) : Holds env h' x v k := by
  unfold Holds at *
  split
  · obtain ⟨m, ⟨o, es, ep, e, r⟩, hm⟩ := H
    exact ⟨m, ⟨o, es, ep, kp _ _ (hl rfl) e, r⟩, hm⟩
  · obtain ⟨c, e, o, ho, d⟩ := H
    exact ⟨c, e, o, kp _ _ (hc c _ e ⟨o, ho, d⟩) ho, d⟩
  · obtain ⟨c, e, o, ho, d⟩ := H
    exact ⟨c, e, o, kp _ _ (hc c _ e ⟨o, ho, d⟩) ho, d⟩
  · trivial

theorem EntRep.keep {h h' : Heap} {g g' : Fz} {e : Ent} {v : Value} {T : Addr → Prop} (H : EntRep h g e v) (kp : Keep T h h') (l : Le g g') (off : ∀ b, OwnAt e v b → ¬ T b) : EntRep h' g' e v := by
  cases e with
  | val p => exact Rep.mono l p H
  | lst ps =>
    obtain ⟨a, vs, rfl, ho, q⟩ := H
    exact ⟨a, vs, rfl, ho.at fun o e => kp _ _ (off a rfl) e, Reps.mono l ps q⟩
  | arr b =>
    obtain ⟨a, rfl, ho⟩ := H
    exact ⟨a, rfl, kp _ _ (off a rfl) ho⟩
  | zip xs ys =>
    obtain ⟨I, l1, l2, vs, us, rfl, Z⟩ := H
    have o0 := off I ⟨I, rfl, .inl rfl⟩
    have o1 := off (I + 1) ⟨I, rfl, .inr (.inl rfl)⟩
    have o2 := off (I + 2) ⟨I, rfl, .inr (.inr (.inl rfl))⟩
    have o3 := off (I + 3) ⟨I, rfl, .inr (.inr (.inr (.inl rfl)))⟩
    have o4 := off (I + 4) ⟨I, rfl, .inr (.inr (.inr (.inr rfl)))⟩
    exact ⟨I, l1, l2, vs, us, rfl, kp _ _ o4 Z.z, kp _ _ o2 Z.ti, kp _ _ o3 Z.to, Z.i1.at fun o e => kp _ _ o0 e, Z.i2.at fun o e => kp _ _ o1 e, Z.a1.mono l, Z.a2.mono l, Reps.mono l _ Z.r1, Reps.mono l _ Z.r2⟩

noncomputable def Mut (env : Env) (fm : Fm) (ρ : Str → Value) (b : Addr) : Prop :=
  b = env.locals ∨ (∃ x, fm.kind x = some .cell ∧ env.cells.lookup x = some b) ∨ ∃ x e, fm.get x = some e ∧ OwnAt e (ρ x) b

structure Inv (HG : Heap) (B g₀ : Fz) (env : Env) (fm : Fm) (ρ : Str → Value) (s₀ s : Shared) (g : Fz) : Prop where
  hg : Ext HG s.heap
  gs : Sub g s.heap
  kind : env.scope.kind = .function
  glob : env.globals = mainGlobals
  blt : env.builtins = builtinsNs
  names : ∀ x k, fm.kind x = some k → KindOk env x k
  var : ∀ x e, fm.get x = some e → Holds env s.heap x (ρ x) (fm.kind x) ∧ EntRep s.heap g e (ρ x)
  same : Same s₀ s
  bs : Sub B s.heap
  hgB : ∀ b o, HG.get? b = some o → B b = some o
  le : Le g₀ g
  new : ∀ b o, g b = some o → g₀ b = some o ∨ B b = none
  ns : ∃ m, s.heap.Ns env.locals m
  cell : ∀ x, fm.kind x = some .cell ∨ fm.kind x = some .free → ∃ c v, env.cells.lookup x = some c ∧ s.heap.IsCell c v
  cinj : ∀ x y c, env.cells.lookup x = some c → env.cells.lookup y = some c → x = y
  own : ∀ b, Mut env fm ρ b → B b = none ∧ g b = none
  apart : ∀ x y e f b, fm.get x = some e → fm.get y = some f → OwnAt e (ρ x) b → OwnAt f (ρ y) b → x = y

section
variable {HG : Heap} {B g₀ : Fz} {env : Env} {fm : Fm} {ρ : Str → Value} {s₀ s : Shared} {g : Fz}

/-- the kind of a thing, to tell addresses apart -/
noncomputable def tag (o : Obj) : Nat := match o.data with
  | .dict _ _ => 0
  | .cell _ => 1
  | .seq _ _ => if o.cls = .type "list" then 2 else 5
  | .bytearray _ _ => 3
  | _ => 4
noncomputable def Tag (h : Heap) (a : Addr) (t : Nat) : Prop := ∃ o, h.get? a = some o ∧ tag o = t
theorem Tag.ne {h : Heap} {a b : Addr} {t u : Nat} (x : Tag h a t) (y : Tag h b u) (n : t ≠ u) : a ≠ b := by
  rintro rfl
  obtain ⟨o, e, p⟩ := x
  obtain ⟨o', e', q⟩ := y
  rw [e] at e'; cases e'
  exact n (p.symm.trans q)
theorem tag_ns {h : Heap} {a : Addr} {m} (x : h.Ns a m) : Tag h a 0 := let ⟨o, es, ep, e, d, _⟩ := x; ⟨o, e, by unfold tag; rw [d]⟩
theorem tag_cell {h : Heap} {a : Addr} {v} (x : h.IsCell a v) : Tag h a 1 := let ⟨o, e, d⟩ := x; ⟨o, e, by unfold tag; rw [d]⟩
theorem tag_own {h : Heap} {g : Fz} {e : Ent} {v : Value} {b : Addr} (x : EntRep h g e v) (y : OwnAt e v b) : ∃ t, 2 ≤ t ∧ Tag h b t := by
  cases e with
  | val p => exact y.elim
  | lst ps =>
    obtain ⟨a, vs, rfl, ⟨n, ho⟩, q⟩ := x
    cases y
    exact ⟨2, by omega, _, ho, rfl⟩
  | arr bs =>
    obtain ⟨a, rfl, ho⟩ := x
    cases y
    exact ⟨3, by omega, _, ho, rfl⟩
  | zip xs ys =>
    obtain ⟨I, l1, l2, vs, us, rfl, Z⟩ := x
    obtain ⟨J, e, k⟩ := y
    have e' : I + 4 = J + 4 := by injection e
    have e2 : J = I := (Nat.add_right_cancel e').symm
    subst e2
    rcases k with rfl | rfl | rfl | rfl | rfl
    · obtain ⟨o, ho, c, d⟩ := Z.i1
      exact ⟨4, by omega, o, ho, by unfold tag; rw [d]⟩
    · obtain ⟨o, ho, c, d⟩ := Z.i2
      exact ⟨4, by omega, o, ho, by unfold tag; rw [d]⟩
    · exact ⟨5, by omega, _, Z.ti, by rfl⟩
    · exact ⟨5, by omega, _, Z.to, by rfl⟩
    · exact ⟨4, by omega, _, Z.z, by rfl⟩

theorem Inv.alive (X : Inv HG B g₀ env fm ρ s₀ s g) {b : Addr} (m : Mut env fm ρ b) : ∃ o, s.heap.get? b = some o := by
  rcases m with rfl | ⟨x, k, e⟩ | ⟨x, e, k, o⟩
  · obtain ⟨m, o, es, ep, h, _⟩ := X.ns; exact ⟨o, h⟩
  · obtain ⟨c, v, h, o, ho, _⟩ := X.cell x (.inl k)
    rw [e] at h; cases h
    exact ⟨o, ho⟩
  · obtain ⟨t, _, o, ho, _⟩ := tag_own (X.var x e k).2 o
    exact ⟨o, ho⟩

/-- evaluation only grows -/
theorem Inv.grow (X : Inv HG B g₀ env fm ρ s₀ s g) {s' : Shared} {g' : Fz} (G : Grow s g s' g') : Inv HG B g₀ env fm ρ s₀ s' g' where
  hg := X.hg.trans G.ext
  gs := G.sub
  kind := X.kind
  glob := X.glob
  blt := X.blt
  names := X.names
  var := fun x e k => ⟨(X.var x e k).1.keep (T := fun _ => False) (G.ext.keep _) (fun _ => id) fun _ _ _ _ => id, (X.var x e k).2.keep (T := fun _ => False) (G.ext.keep _) G.le fun _ _ => id⟩
  same := X.same.trans G.same
  bs := fun b o e => G.ext b o (X.bs b o e)
  hgB := X.hgB
  le := X.le.trans G.le
  new := fun b o e => by
    rcases G.new b o e with h | h
    · exact X.new b o h
    · refine .inr ?_
      cases q : B b with
      | none => rfl
      | some o' => rw [X.bs b o' q] at h; cases h
  ns := let ⟨m, h⟩ := X.ns; ⟨m, h.keeps G.ext⟩
  cell := fun x k => let ⟨c, v, e, h⟩ := X.cell x k; ⟨c, v, e, h.keeps G.ext⟩
  cinj := X.cinj
  own := fun b m => by
    refine ⟨(X.own b m).1, ?_⟩
    cases q : g' b with
    | none => rfl
    | some o =>
      rcases G.new b o q with h | h
      · rw [(X.own b m).2] at h; cases h
      · obtain ⟨o', e⟩ := X.alive m
        rw [e] at h; cases h
  apart := X.apart

/-- what is not the frame's own is to be kept: for the time of a loop -/
noncomputable def base (env : Env) (fm : Fm) (ρ : Str → Value) (h : Heap) : Fz := fun b => open Classical in if Mut env fm ρ b then none else h.get? b
theorem base_none {h : Heap} {b : Addr} (m : Mut env fm ρ b) : base env fm ρ h b = none := by unfold base; rw [if_pos m]
theorem base_some {h : Heap} {b : Addr} (m : ¬ Mut env fm ρ b) : base env fm ρ h b = h.get? b := by unfold base; rw [if_neg m]
theorem Inv.le_base (X : Inv HG B g₀ env fm ρ s₀ s g) : ∀ b o, B b = some o → base env fm ρ s.heap b = some o := fun b o e => by
  rw [base_some (fun m => by rw [(X.own b m).1] at e; cases e)]
  exact X.bs b o e
theorem Inv.rebase (X : Inv HG B g₀ env fm ρ s₀ s g) : Inv HG (base env fm ρ s.heap) g env fm ρ s s g where
  hg := X.hg
  gs := X.gs
  kind := X.kind
  glob := X.glob
  blt := X.blt
  names := X.names
  var := X.var
  same := .refl _
  bs := fun b o e => by
    by_cases m : Mut env fm ρ b
    · rw [base_none m] at e; cases e
    · rw [base_some m] at e; exact e
  hgB := fun b o e => X.le_base b o (X.hgB b o e)
  le := .refl _
  new := fun b o e => .inl e
  ns := X.ns
  cell := X.cell
  cinj := X.cinj
  own := fun b m => ⟨base_none m, (X.own b m).2⟩
  apart := X.apart
/-- back to the wider base -/
theorem Inv.unbase {B' : Fz} {s₁ : Shared} {fm' : Fm} {ρ' : Str → Value} {g' g₁ : Fz} (Y : Inv HG B' g₁ env fm' ρ' s₁ s g') (hB : ∀ b o, B b = some o → B' b = some o) (hgB : ∀ b o, HG.get? b = some o → B b = some o) (hs : Same s₀ s₁) (hl : Le g₀ g₁)
    (hn : ∀ b o, g₁ b = some o → g₀ b = some o ∨ B b = none) : Inv HG B g₀ env fm' ρ' s₀ s g' where
  hg := Y.hg
  gs := Y.gs
  kind := Y.kind
  glob := Y.glob
  blt := Y.blt
  names := Y.names
  var := Y.var
  same := hs.trans Y.same
  bs := fun b o e => Y.bs b o (hB b o e)
  hgB := hgB
  le := hl.trans Y.le
  new := fun b o e => by
    rcases Y.new b o e with h | h
    · exact hn b o h
    · refine .inr ?_
      cases q : B b with
      | none => rfl
      | some o' => rw [hB b o' q] at h; cases h
  ns := Y.ns
  cell := Y.cell
  cinj := Y.cinj
  own := fun b m => by
    refine ⟨?_, (Y.own b m).2⟩
    cases q : B b with
    | none => rfl
    | some o' =>
      have := (Y.own b m).1
      rw [hB b o' q] at this; cases this
  apart := Y.apart
theorem Inv.unrebase (X : Inv HG B g₀ env fm ρ s₀ s g) {s' : Shared} {fm' : Fm} {ρ' : Str → Value} {g' : Fz} (Y : Inv HG (base env fm ρ s.heap) g env fm' ρ' s s' g') : Inv HG B g₀ env fm' ρ' s₀ s' g' :=
  Y.unbase X.le_base X.hgB X.same X.le X.new
end
end Mine
end
section
open PySem PySem.W PyProof.Rows
set_option Elab.async false
set_option maxRecDepth 100000
namespace Mine

theorem look_set (l : List (Str × Ent)) (x : Str) (e : Ent) (y : Str) : lookE (setE l x e) y = if y = x then some e else lookE l y := by
  induction l with
  | nil => simp only [setE, lookE]
  | cons p r ih =>
    obtain ⟨z, f⟩ := p
    simp only [setE]
    by_cases h : x = z
    · subst h
      simp only [if_true, lookE]
      by_cases k : y = x <;> simp [k]
    · simp only [if_neg h, lookE, ih]
      by_cases k : y = z
      · subst k; simp [Ne.symm h]
      · simp [k]
theorem look_del (l : List (Str × Ent)) (x y : Str) : lookE (delE l x) y = if y = x then none else lookE l y := by
  induction l with
  | nil => simp [delE, lookE]
  | cons p r ih =>
    obtain ⟨z, f⟩ := p
    simp only [delE]
    by_cases h : x = z
    · subst h
      simp only [if_true, ih, lookE]
      by_cases k : y = x <;> simp [k]
    · simp only [if_neg h, lookE, ih]
      by_cases k : y = z
      · subst k; simp [Ne.symm h]
      · simp [k]
theorem look_frz (l : List (Str × Ent)) (y : Str) : lookE (frzAll l) y = (lookE l y).map frz := by
  induction l with
  | nil => rfl
  | cons p r ih =>
    obtain ⟨z, f⟩ := p
    simp only [frzAll, lookE, ih]
    by_cases k : y = z <;> simp [k]

noncomputable def upd (ρ : Str → Value) (x : Str) (v : Value) : Str → Value := fun y => if y = x then v else ρ y
theorem upd_same (ρ : Str → Value) (x : Str) (v : Value) : upd ρ x v x = v := by simp [upd]
theorem upd_other (ρ : Str → Value) {x y : Str} (v : Value) (h : y ≠ x) : upd ρ x v y = ρ y := by simp [upd, h]

section
variable {HG : Heap} {B g₀ : Fz} {env : Env} {fm : Fm} {ρ : Str → Value} {s₀ s : Shared} {g : Fz} {M : Model} {A : Around} {E : Value → Shared → Prop} {x : Str} {v : Value}

theorem Inv.load {e : Ent} {Q : Value → Shared → Prop} (X : Inv HG B g₀ env fm ρ s₀ s g) (hl : loadable (fm.kind x) = true) (hg : fm.get x = some e) (h : Q (ρ x) s) : wpAny M A (loadName env x) Q E s := by
  have H := (X.var x e hg).1
  cases k : fm.kind x with
  | none => rw [k] at hl; cases hl
  | some q =>
    have N := X.names x q k
    rw [k] at H hl
    cases q with
    | «local» =>
      obtain ⟨m, hm, he⟩ := H
      exact wpAny_loadName_local X.kind N hm he h
    | cell =>
      obtain ⟨c, hc, hv⟩ := H
      exact wpAny_loadName_cell X.kind N hc hv h
    | free =>
      obtain ⟨c, hc, hv⟩ := H
      exact wpAny_loadName_cell X.kind N hc hv h
    | globalExplicit => cases hl
    | globalImplicit => cases hl

theorem Inv.dict (X : Inv HG B g₀ env fm ρ s₀ s g) : Tag s.heap env.locals 0 := let ⟨_, h⟩ := X.ns; tag_ns h
/-- the frame's own addresses, told by their kind -/
theorem Inv.loc_ne_own (X : Inv HG B g₀ env fm ρ s₀ s g) {y : Str} {f : Ent} (hf : fm.get y = some f) {b : Addr} (o : OwnAt f (ρ y) b) : b ≠ env.locals := by
  obtain ⟨t, ht, T⟩ := tag_own (X.var y f hf).2 o
  exact T.ne X.dict (by omega)
theorem Inv.cell_ne_loc (X : Inv HG B g₀ env fm ρ s₀ s g) {c : Addr} {w : Option Value} (h : s.heap.IsCell c w) : c ≠ env.locals := (tag_cell h).ne X.dict (by decide)
theorem Inv.cell_ne_own (X : Inv HG B g₀ env fm ρ s₀ s g) {c : Addr} {w : Option Value} (h : s.heap.IsCell c w) {y : Str} {f : Ent} (hf : fm.get y = some f) {b : Addr} (o : OwnAt f (ρ y) b) : b ≠ c := by
  obtain ⟨t, ht, T⟩ := tag_own (X.var y f hf).2 o
  exact T.ne (tag_cell h) (by omega)

/-- a thing that may be stored: it is borne, and what is its own is nobody else's -/
structure Fit (B : Fz) (fm : Fm) (ρ : Str → Value) (h : Heap) (g : Fz) (x : Str) (e : Ent) (v : Value) : Prop where
  rep : EntRep h g e v
  free : ∀ b, OwnAt e v b → B b = none ∧ g b = none
  alone : ∀ y f b, y ≠ x → fm.get y = some f → OwnAt f (ρ y) b → ¬ OwnAt e v b
theorem Fit.val {p : PV} {h : Heap} (r : Rep g p v) : Fit B fm ρ h g x (.val p) v := ⟨r, fun _ o => o.elim, fun _ _ _ _ _ _ o => o.elim⟩

theorem Inv.store {e : Ent} {fm' : Fm} {Q : Unit → Shared → Prop} (X : Inv HG B g₀ env fm ρ s₀ s g) (hs : fm.set x e = some fm') (F : Fit B fm ρ s.heap g x e v)
    (h : ∀ s', Inv HG B g₀ env fm' (upd ρ x v) s₀ s' g → Q () s') : wpAny M A (storeName env x v) Q E s := by
  unfold Fm.set at hs
  split at hs
  · rename_i hk
    cases hs
    have getS : ∀ y f, (⟨fm.names, setE fm.vars x e⟩ : Fm).get y = some f → (y = x ∧ f = e) ∨ (y ≠ x ∧ fm.get y = some f) := fun y f q => by
      have q' : lookE (setE fm.vars x e) y = some f := q
      rw [look_set] at q'
      by_cases k : y = x
      · rw [if_pos k] at q'; cases q'; exact .inl ⟨k, rfl⟩
      · rw [if_neg k] at q'; exact .inr ⟨k, q'⟩
    have apart' : ∀ y z f f' b, (⟨fm.names, setE fm.vars x e⟩ : Fm).get y = some f → (⟨fm.names, setE fm.vars x e⟩ : Fm).get z = some f' → OwnAt f (upd ρ x v y) b → OwnAt f' (upd ρ x v z) b → y = z := by
      intro y z f f' b hy hz oy oz
      rcases getS y f hy with ⟨ky, ey⟩ | ⟨ky, ey⟩ <;> rcases getS z f' hz with ⟨kz, ez⟩ | ⟨kz, ez⟩
      · exact ky.trans kz.symm
      · subst ky ey
        rw [upd_same] at oy; rw [upd_other ρ v kz] at oz
        exact (F.alone z f' b kz ez oz oy).elim
      · subst kz ez
        rw [upd_same] at oz; rw [upd_other ρ v ky] at oy
        exact (F.alone y f b ky ey oy oz).elim
      · rw [upd_other ρ v ky] at oy; rw [upd_other ρ v kz] at oz
        exact X.apart y z f f' b ey ez oy oz
    have ownS : ∀ b, Mut env ⟨fm.names, setE fm.vars x e⟩ (upd ρ x v) b → B b = none ∧ g b = none := by
      rintro b (rfl | ⟨y, hk, hc⟩ | ⟨y, f, hf, o⟩)
      · exact X.own _ (.inl rfl)
      · exact X.own _ (.inr (.inl ⟨y, hk, hc⟩))
      · rcases getS y f hf with ⟨ky, ey⟩ | ⟨ky, ey⟩
        · subst ky ey; rw [upd_same] at o; exact F.free b o
        · rw [upd_other ρ v ky] at o; exact X.own _ (.inr (.inr ⟨y, f, ey, o⟩))
    -- a change at one address T of the frame's own, that no own thing lies at
    have go : ∀ (T : Addr) (h' : Heap) (tk : Nat), Mut env fm ρ T → (∀ y f b, fm.get y = some f → OwnAt f (ρ y) b → b ≠ T) → (∀ b, OwnAt e v b → b ≠ T) → Heap.SameBut T s.heap h' →
        (∃ m, h'.Ns env.locals m) → (∀ y, fm.kind y = some .cell ∨ fm.kind y = some .free → ∃ c w, env.cells.lookup y = some c ∧ h'.IsCell c w) → Holds env h' x v (fm.kind x) →
        (∀ y f, y ≠ x → fm.get y = some f → Holds env h' y (ρ y) (fm.kind y)) →
        Inv HG B g₀ env ⟨fm.names, setE fm.vars x e⟩ (upd ρ x v) s₀ { s with heap := h', toks := tk } g := by
      intro T h' tk mT oT eT sb hns hcell hx hy
      have kp := Keep.same sb
      have nB : ∀ b o, B b = some o → b ≠ T := fun b o q => by rintro rfl; rw [(X.own b mT).1] at q; cases q
      have ng : ∀ b o, g b = some o → b ≠ T := fun b o q => by rintro rfl; rw [(X.own b mT).2] at q; cases q
      refine ⟨fun b o q => sb.extBut b o (nB b o (X.hgB b o q)) (X.hg b o q), fun b o q => sb.extBut b o (ng b o q) (X.gs b o q), X.kind, X.glob, X.blt, X.names, ?_, X.same, fun b o q => sb.extBut b o (nB b o q) (X.bs b o q), X.hgB, X.le, X.new, hns, hcell, X.cinj, ownS, apart'⟩
      intro y f hf
      rcases getS y f hf with ⟨ky, ey⟩ | ⟨ky, ey⟩
      · subst ky ey
        rw [upd_same]
        exact ⟨hx, F.rep.keep kp (.refl _) eT⟩
      · rw [upd_other ρ v ky]
        exact ⟨hy y f ky ey, (X.var y f ey).2.keep kp (.refl _) (oT y f · ey)⟩
    cases k : fm.kind x with
    | none => rw [k] at hk; cases hk
    | some q =>
      have N := X.names x q k
      cases q with
      | «local» =>
        obtain ⟨m, hm⟩ := X.ns
        refine wpAny_storeName_local N hm (fun h' hn' hs' => h _ (go env.locals h' _ (.inl rfl) (fun y f b hf o => X.loc_ne_own hf o) (fun b o => ?_) hs' ⟨_, hn'⟩ (fun y hy => ?_) ?_ fun y f ky hf => ?_)) (by simp [X.kind])
        · obtain ⟨t, ht, T⟩ := tag_own F.rep o
          exact T.ne X.dict (by omega)
        · obtain ⟨c, w, e1, e2⟩ := X.cell y hy
          exact ⟨c, w, e1, e2.sameBut hs' (X.cell_ne_loc e2)⟩
        · rw [k]; exact ⟨_, hn', by simp⟩
        · have H := (X.var y f hf).1
          unfold Holds at H ⊢
          split at H
          · obtain ⟨m₁, h1, h2⟩ := H
            refine ⟨_, hn', ?_⟩
            simp only [if_neg ky]
            have : m y = m₁ y := by
              obtain ⟨o1, es1, ep1, a1, b1, c1, d1⟩ := hm
              obtain ⟨o2, es2, ep2, a2, b2, c2, d2⟩ := h1
              rw [a1] at a2; cases a2
              rw [b1] at b2; cases b2
              rw [← d1, ← d2]
            rw [this]; exact h2
          · obtain ⟨c, e1, e2⟩ := H
            exact ⟨c, e1, e2.sameBut hs' (X.cell_ne_loc e2)⟩
          · obtain ⟨c, e1, e2⟩ := H
            exact ⟨c, e1, e2.sameBut hs' (X.cell_ne_loc e2)⟩
          · trivial
      | cell =>
        obtain ⟨c, w, hc, hw⟩ := X.cell x (.inl k)
        refine wpAny_storeName_cell X.kind N hc hw fun h' hc' hs' => h _ (go c h' _ (.inr (.inl ⟨x, k, hc⟩)) (fun y f b hf o => X.cell_ne_own hw hf o) (fun b o => ?_) hs' ?_ (fun y hy => ?_) ?_ fun y f ky hf => ?_)
        · obtain ⟨t, ht, T⟩ := tag_own F.rep o
          exact T.ne (tag_cell hw) (by omega)
        · obtain ⟨m, hm⟩ := X.ns
          exact ⟨m, hm.sameBut hs' (Ne.symm (X.cell_ne_loc hw))⟩
        · obtain ⟨c2, w2, e1, e2⟩ := X.cell y hy
          by_cases q : c2 = c
          · subst q; exact ⟨c2, _, e1, hc'⟩
          · exact ⟨c2, w2, e1, e2.sameBut hs' q⟩
        · rw [k]; exact ⟨c, hc, hc'⟩
        · have H := (X.var y f hf).1
          have nc : ∀ c2, env.cells.lookup y = some c2 → c2 ≠ c := fun c2 e1 q => by
            subst q; exact ky (X.cinj y x c2 e1 hc)
          unfold Holds at H ⊢
          split at H
          · obtain ⟨m, hm, e⟩ := H
            exact ⟨m, hm.sameBut hs' (Ne.symm (X.cell_ne_loc hw)), e⟩
          · obtain ⟨c2, e1, e2⟩ := H
            exact ⟨c2, e1, e2.sameBut hs' (nc c2 e1)⟩
          · obtain ⟨c2, e1, e2⟩ := H
            exact ⟨c2, e1, e2.sameBut hs' (nc c2 e1)⟩
          · trivial
      | free => rw [k] at hk; cases hk
      | globalExplicit => rw [k] at hk; cases hk
      | globalImplicit => rw [k] at hk; cases hk
  · cases hs

/-- an own list or bytearray is changed where it lies -/
theorem Inv.touch {e e' : Ent} {a : Addr} {h' : Heap} {tk : Nat} (X : Inv HG B g₀ env fm ρ s₀ s g) (hg : fm.get x = some e) (ho : ∀ b, OwnAt e (ρ x) b ↔ b = a) (ho' : ∀ b, OwnAt e' (ρ x) b ↔ b = a)
    (hs : Heap.SameBut a s.heap h') (hr : EntRep h' g e' (ρ x)) : Inv HG B g₀ env ⟨fm.names, setE fm.vars x e'⟩ ρ s₀ { s with heap := h', toks := tk } g := by
  have ma : Mut env fm ρ a := .inr (.inr ⟨x, e, hg, (ho a).2 rfl⟩)
  have nB : ∀ b o, B b = some o → b ≠ a := fun b o q => by rintro rfl; rw [(X.own b ma).1] at q; cases q
  have ng : ∀ b o, g b = some o → b ≠ a := fun b o q => by rintro rfl; rw [(X.own b ma).2] at q; cases q
  have aL : a ≠ env.locals := X.loc_ne_own hg ((ho a).2 rfl)
  have aC : ∀ c w, s.heap.IsCell c w → c ≠ a := fun c w h => Ne.symm (X.cell_ne_own h hg ((ho a).2 rfl))
  have getS : ∀ y f, (⟨fm.names, setE fm.vars x e'⟩ : Fm).get y = some f → (y = x ∧ f = e') ∨ (y ≠ x ∧ fm.get y = some f) := fun y f q => by
    have q' : lookE (setE fm.vars x e') y = some f := q
    rw [look_set] at q'
    by_cases k : y = x
    · rw [if_pos k] at q'; cases q'; exact .inl ⟨k, rfl⟩
    · rw [if_neg k] at q'; exact .inr ⟨k, q'⟩
  have toOld : ∀ y f b, (⟨fm.names, setE fm.vars x e'⟩ : Fm).get y = some f → OwnAt f (ρ y) b → ∃ f₀, fm.get y = some f₀ ∧ OwnAt f₀ (ρ y) b := fun y f b q o => by
    rcases getS y f q with ⟨ky, ey⟩ | ⟨ky, ey⟩
    · subst ky ey; exact ⟨e, hg, (ho b).2 ((ho' b).1 o)⟩
    · exact ⟨f, ey, o⟩
  refine ⟨fun b o q => hs.extBut b o (nB b o (X.hgB b o q)) (X.hg b o q), fun b o q => hs.extBut b o (ng b o q) (X.gs b o q), X.kind, X.glob, X.blt, X.names, ?_, X.same, fun b o q => hs.extBut b o (nB b o q) (X.bs b o q), X.hgB, X.le, X.new,
    let ⟨m, h⟩ := X.ns; ⟨m, h.sameBut hs (Ne.symm aL)⟩, fun y hy => let ⟨c, w, e1, e2⟩ := X.cell y hy; ⟨c, w, e1, e2.sameBut hs (aC c w e2)⟩, X.cinj, ?_, ?_⟩
  · intro y f q
    have kp := Keep.same hs
    have keepH : ∀ f₀, fm.get y = some f₀ → Holds env h' y (ρ y) (fm.kind y) := fun f₀ hf => (X.var y f₀ hf).1.keep kp (fun _ => Ne.symm aL) fun c w _ hc => aC c w hc
    rcases getS y f q with ⟨ky, ey⟩ | ⟨ky, ey⟩
    · subst ky ey
      exact ⟨keepH e hg, hr⟩
    · refine ⟨keepH f ey, (X.var y f ey).2.keep kp (.refl _) fun b o q' => ?_⟩
      have q'' : b = a := q'
      subst q''
      exact ky (X.apart y x f e b ey hg o ((ho b).2 rfl))
  · rintro b (rfl | ⟨y, hk, hc⟩ | ⟨y, f, hf, o⟩)
    · exact X.own _ (.inl rfl)
    · exact X.own _ (.inr (.inl ⟨y, hk, hc⟩))
    · obtain ⟨f₀, h1, h2⟩ := toOld y f b hf o
      exact X.own _ (.inr (.inr ⟨y, f₀, h1, h2⟩))
  · intro y z f f' b hy hz oy oz
    obtain ⟨f₀, h1, h2⟩ := toOld y f b hy oy
    obtain ⟨f₁, h3, h4⟩ := toOld z f' b hz oz
    exact X.apart y z f₀ f₁ b h1 h3 h2 h4

/-- fewer names are asked after -/
theorem Inv.less {vars : List (Str × Ent)} (X : Inv HG B g₀ env fm ρ s₀ s g) (h : ∀ y f, lookE vars y = some f → fm.get y = some f) : Inv HG B g₀ env ⟨fm.names, vars⟩ ρ s₀ s g where
  hg := X.hg
  gs := X.gs
  kind := X.kind
  glob := X.glob
  blt := X.blt
  names := X.names
  var := fun y f q => X.var y f (h y f q)
  same := X.same
  bs := X.bs
  hgB := X.hgB
  le := X.le
  new := X.new
  ns := X.ns
  cell := X.cell
  cinj := X.cinj
  own := by
    rintro b (rfl | ⟨y, hk, hc⟩ | ⟨y, f, hf, o⟩)
    · exact X.own _ (.inl rfl)
    · exact X.own _ (.inr (.inl ⟨y, hk, hc⟩))
    · exact X.own _ (.inr (.inr ⟨y, f, h y f hf, o⟩))
  apart := fun y z f f' b hy hz => X.apart y z f f' b (h y f hy) (h z f' hz)

/-- every own list and bytearray is frozen -/
noncomputable def frzG (env : Env) (fm : Fm) (ρ : Str → Value) (h : Heap) (g : Fz) : Fz := fun b =>
  open Classical in if ∃ x e, fm.get x = some e ∧ OwnAt e (ρ x) b ∧ ¬ OwnAt (frz e) (ρ x) b then h.get? b else g b
theorem Inv.freeze (X : Inv HG B g₀ env fm ρ s₀ s g) : ∃ g', Le g g' ∧ Inv HG B g₀ env fm.frz ρ s₀ s g' := by
  have old : ∀ {b}, (∃ x e, fm.get x = some e ∧ OwnAt e (ρ x) b ∧ ¬ OwnAt (frz e) (ρ x) b) → B b = none ∧ g b = none := fun ⟨x, e, h1, h2, _⟩ => X.own _ (.inr (.inr ⟨x, e, h1, h2⟩))
  have gle : Le g (frzG env fm ρ s.heap g) := fun b o e => by
    unfold frzG
    split
    · rename_i k; rw [(old k).2] at e; cases e
    · exact e
  have getF : ∀ y f, fm.frz.get y = some f → ∃ e, fm.get y = some e ∧ f = frz e := fun y f q => by
    have q' : lookE (frzAll fm.vars) y = some f := q
    rw [look_frz] at q'
    cases k : lookE fm.vars y with
    | none => rw [k] at q'; cases q'
    | some e => rw [k] at q'; cases q'; exact ⟨e, k, rfl⟩
  have sub : ∀ e v b, OwnAt (frz e) v b → OwnAt e v b := fun e v b o => by
    cases e with
    | val p => exact o
    | lst ps => exact o.elim
    | arr bs => exact o.elim
    | zip xs ys => exact o
  refine ⟨frzG env fm ρ s.heap g, gle, X.hg, fun b o e => ?_, X.kind, X.glob, X.blt, X.names, fun y f q => ?_, X.same, X.bs, X.hgB, X.le.trans gle, fun b o e => ?_, X.ns, X.cell, X.cinj, ?_, ?_⟩
  · unfold frzG at e
    split at e
    · exact e
    · exact X.gs b o e
  · obtain ⟨e, he, rfl⟩ := getF y f q
    have V := X.var y e he
    refine ⟨V.1, ?_⟩
    cases e with
    | val p => exact Rep.mono gle p V.2
    | lst ps =>
      obtain ⟨a, vs, hv, ⟨n, ho⟩, r⟩ := V.2
      show Rep _ (.list ps) _
      simp only [Rep]
      refine ⟨a, vs, hv, ⟨{ cls := .type "list", data := .seq vs.toArray n }, ?_, rfl, n, rfl⟩, Reps.mono gle ps r⟩
      unfold frzG
      rw [if_pos ⟨y, _, he, hv, fun z => z.elim⟩]
      exact ho
    | arr bs =>
      obtain ⟨a, hv, ho⟩ := V.2
      show Rep _ (.barr bs) _
      simp only [Rep]
      refine ⟨a, hv, ?_⟩
      unfold frzG
      rw [if_pos ⟨y, _, he, hv, fun z => z.elim⟩]
      exact ho
    | zip xs ys => exact V.2.keep (T := fun _ => False) (fun _ _ _ e => e) gle fun _ _ => id
  · unfold frzG at e
    split at e
    · rename_i k; exact .inr (old k).1
    · exact X.new b o e
  · have key : ∀ b, (∀ x e, fm.get x = some e → OwnAt e (ρ x) b → OwnAt (frz e) (ρ x) b) → g b = none → frzG env fm ρ s.heap g b = none := fun b h1 h2 => by
      unfold frzG
      rw [if_neg]
      · exact h2
      · rintro ⟨x, e, a1, a2, a3⟩
        exact a3 (h1 x e a1 a2)
    rintro b (rfl | ⟨y, hk, hc⟩ | ⟨y, f, hf, o⟩)
    · have h := X.own _ (.inl rfl)
      exact ⟨h.1, key _ (fun x e a1 a2 => absurd rfl (X.loc_ne_own a1 a2)) h.2⟩
    · have h := X.own _ (.inr (.inl ⟨y, hk, hc⟩))
      obtain ⟨c, w, e1, e2⟩ := X.cell y (.inl hk)
      rw [hc] at e1; cases e1
      exact ⟨h.1, key _ (fun x e a1 a2 => absurd rfl (X.cell_ne_own e2 a1 a2)) h.2⟩
    · obtain ⟨e, he, rfl⟩ := getF y f hf
      have o' := sub e _ b o
      have h := X.own b (.inr (.inr ⟨y, e, he, o'⟩))
      refine ⟨h.1, key b (fun x e₁ a1 a2 => ?_) h.2⟩
      have q := X.apart x y e₁ e b a1 he a2 o'
      subst q
      rw [he] at a1; cases a1
      exact o
  · intro y z f f' b hy hz oy oz
    obtain ⟨e, he, rfl⟩ := getF y f hy
    obtain ⟨e', he', rfl⟩ := getF z f' hz
    exact X.apart y z e e' b he he' (sub _ _ _ oy) (sub _ _ _ oz)
end
end Mine
end
section
open PySem PySem.W PyProof.Rows
open Sem (wp)
set_option Elab.async false
set_option maxRecDepth 100000
namespace Mine

noncomputable def holders : List String := PySem.Builtin.Bytes.decodersThatHold ++ ["bytearray.__contains__", "bytearray.__mod__", "bytearray.__rmod__", "_struct.pack_into.held", "bytearray.find.held"]
/-- a code that holds nobody's octets -/
noncomputable def okCode : Code → Bool
  | .builtin id _ => !holders.contains id
  | _ => true
noncomputable def Clean (Γ : Ctx) : Prop := okCode Γ.code = true ∧ ∀ c ∈ Γ.below, okCode c.1 = true
noncomputable abbrev F0 : Value → Shared → Prop := fun _ _ => False

noncomputable def wpG {α : Type} (M : Model) (A : Around) (t : Sem α) (Q : α → Shared → Prop) (s : Shared) : Prop :=
  ∀ Γ p, Γ.In A → Clean Γ → wp M Γ t (fun a _ s' => Q a s') (fun _ _ _ => False) p s
noncomputable def RG (R : Flow → Shared → Prop) : Result → Shared → Prop := fun r s' => match r with | .ok f => R f s' | .error _ => False
noncomputable def codeG (M : Model) (A : Around) (c : Code) (R : Flow → Shared → Prop) (s : Shared) : Prop :=
  ∀ Γ p, Γ.code = c → Γ.Below A → Clean Γ → wpCode M Γ (RG R) p s

section
variable {α β : Type} {M : Model} {A : Around} {s : Shared}
theorem G_of {t : Sem α} {Q : α → Shared → Prop} (h : wpAny M A t Q F0 s) : wpG M A t Q s := fun Γ p i _ => h Γ p i
theorem G_mono {t : Sem α} {Q Q' : α → Shared → Prop} (h : wpG M A t Q s) (hQ : ∀ a s', Q a s' → Q' a s') : wpG M A t Q' s :=
  fun Γ p i k => Sem.wp_mono M Γ t (fun a _ s' => hQ a s') (fun _ _ _ x => x) p s (h Γ p i k)
theorem G_bind {m : Sem α} {f : α → Sem β} {Q : β → Shared → Prop} (h : wpG M A m (fun a s' => wpG M A (f a) Q s') s) : wpG M A (m >>= f) Q s := fun Γ p i k => by
  rw [Sem.wp_bind']
  exact Sem.wp_mono M Γ m (fun a p' s' h' => h' Γ p' i k) (fun _ _ _ h' => h') p s (h Γ p i k)
/-- an op of the library, then one of ours -/
theorem G_obind {m : Sem α} {f : α → Sem β} {Q : β → Shared → Prop} (h : wpAny M A m (fun a s' => wpG M A (f a) Q s') F0 s) : wpG M A (m >>= f) Q s := G_bind (G_of h)
theorem G_pure {a : α} {Q : α → Shared → Prop} (h : Q a s) : wpG M A (pure a) Q s := fun _ _ _ _ => h
theorem G_onRaise {m : Sem α} {k : Value → Sem Unit} {Q : α → Shared → Prop} (h : wpG M A m Q s) : wpG M A (m.onRaise k) Q s := fun Γ p i c => by
  rw [Sem.wp_onRaise]
  exact Sem.wp_mono M Γ m (fun _ _ _ h' => h') (fun _ _ _ h' => h'.elim) p s (h Γ p i c)
theorem G_attempt {m : Sem α} {Q : Except Value α → Shared → Prop} (h : wpG M A m (fun a => Q (.ok a)) s) : wpG M A m.attempt Q s := fun Γ p i c => by
  rw [Sem.wp_attempt]
  exact Sem.wp_mono M Γ m (fun _ _ _ h' => h') (fun _ _ _ h' => h'.elim) p s (h Γ p i c)
theorem G_holding {vs : List Value} {m : Sem α} {Q : α → Shared → Prop} (h : wpG M A m Q s) : wpG M A (holding vs m) Q s :=
  fun Γ p i c => by rw [Sem.wp_holding]; exact h Γ p i c
theorem G_operate {vs : List Value} {m : Sem Value} {Q : Value → Shared → Prop} (h : wpG M A m Q s) : wpG M A (operate vs m) Q s :=
  fun Γ p i c => by rw [Sem.wp_operate]; exact h Γ p i c
theorem G_standAt {pos : Pos} {Q : Unit → Shared → Prop} (h : Q () s) : wpG M A (standAt pos) Q s := fun _ _ _ _ => h
theorem G_point {Q : Unit → Shared → Prop} (h : Q () s) : wpG M A point Q s := fun _ _ _ _ => h
theorem G_rule {tag : String} {Q : Unit → Shared → Prop} (h : Q () s) : wpG M A (rule tag) Q s := fun _ _ _ _ => h
theorem G_stand {pos : Pos} {f : Unit → Sem β} {Q : β → Shared → Prop} (h : wpG M A (f ()) Q s) : wpG M A (standAt pos >>= f) Q s := G_bind (G_standAt h)
theorem G_eq {t u : Sem α} {Q : α → Shared → Prop} (e : t = u) (h : wpG M A u Q s) : wpG M A t Q s := e ▸ h
theorem G_ret {v : Value} {Q : Fin → Shared → Prop} (h : Q (.done (.ret v)) s) : wpG M A (ret v) Q s := G_pure h

theorem Clean.enter {Γ : Ctx} (h : Clean Γ) {c : Code} (hd : Option Value) (p : Pos) (hc : okCode c = true) : Clean (Γ.enter c hd p) := by
  refine ⟨hc, fun x hx => ?_⟩
  rcases List.mem_cons.mp hx with rfl | hx
  · exact h.1
  · exact h.2 x hx
theorem G_run {c : Code} {Q : Flow → Shared → Prop} (hc : codeG M A c Q s) (ok : okCode c = true := by rfl) : wpG M A (run c none) Q s := fun Γ p i k => by
  rw [Sem.wp_run]
  have e : A.mark none = A := rfl
  refine wpCode_mono (fun r s' h => ?_) (hc _ p rfl (i.enter c none p (by intro x; cases x)) (k.enter none p ok))
  cases r with
  | ok f => exact h
  | error x => exact h.elim
theorem G_runValue {c : Code} {Q : Value → Shared → Prop} (hc : codeG M A c (fun f s' => match f with | .ret v => Q v s' | _ => False) s) (ok : okCode c = true := by rfl) : wpG M A (runValue c) Q s := fun Γ p i k => by
  rw [Sem.wp_runValue]
  refine wpCode_mono (fun r s' h => ?_) (hc _ p rfl (i.enter c none p (by intro x; cases x)) (k.enter none p ok))
  cases r with
  | ok f => cases f <;> exact h
  | error x => exact h.elim
theorem G_runOwn {c : Code} {env : Env} {Q : Flow → Shared → Prop} (hc : codeG M A c Q s) (ok : okCode c = true := by rfl) : wpG M A (runOwn c env none) Q s := by
  unfold runOwn
  exact G_onRaise (G_run hc ok)
theorem C_mono {c : Code} {R R' : Flow → Shared → Prop} (h : codeG M A c R s) (hR : ∀ f s', R f s' → R' f s') : codeG M A c R' s := fun Γ p e i k =>
  wpCode_mono (fun r s' x => by cases r <;> first | exact hR _ _ x | exact x) (h Γ p e i k)
theorem C_tree {c : Code} {R : Flow → Shared → Prop}
    (h : wpG M (A.under c) (M.den c) (fun fin s' => match fin with | .done f => R f s' | .again c' => c'.quiet = true ∧ okCode c' = true ∧ codeG M A c' R s') s) : codeG M A c R s := fun Γ p hc hΓ k => by
  rw [wpCode_iff_wp, hc]
  refine Sem.wp_mono M Γ _ (fun fin p' s' h' => ?_) (fun _ _ _ h' => h'.elim) p s (h Γ p (hc ▸ hΓ.in) k)
  cases fin with
  | done f => exact h'
  | again c' => exact ⟨h'.1, h'.2.2 (Γ.goto c') p' rfl (hΓ.goto c') ⟨h'.2.1, k.2⟩⟩
end

section
variable {prog : Program} {w : World} {A : Around} {s : Shared} {env : Env}

theorem X_nil {Q : Flow → Shared → Prop} (h : Q .next s) : wpG (model prog w) A (execs [] env) Q s := G_pure h
theorem X_cons {st rest} {Q : Flow → Shared → Prop} (h : wpG (model prog w) A (exec st env) (fun f s' => match f with | .next => wpG (model prog w) A (execs rest env) Q s' | f => Q f s') s) : wpG (model prog w) A (execs (st :: rest) env) Q s := by
  rw [execs_cons]
  refine G_bind (G_mono h fun f s' h' => ?_)
  cases f <;> first | exact h' | exact G_pure h'
end
end Mine
end
section
open PySem PySem.W PyProof.Rows
open Sem (wp)
set_option Elab.async false
set_option maxRecDepth 100000
set_option linter.unusedVariables false
namespace Mine

section
variable {M : Model} {A : Around} {s : Shared} {env : Env}

theorem X_BinOp {l op r pos} {Q : Value → Shared → Prop}
    (h : wpG M A (eval l env) (fun a s₁ => wpG M A (eval r env) (fun b s₂ => wpAny M A (binaryOp op a b) Q F0 s₂) s₁) s) : wpG M A (eval (.BinOp l op r pos) env) Q s := by
  rw [eval_BinOp]
  exact G_bind (G_mono h fun a s₁ h₁ => G_bind (G_holding (G_mono h₁ fun b s₂ h₂ => G_stand (G_operate (G_of h₂)))))
theorem X_Compare1 {l op r pos} {Q : Value → Shared → Prop} (hm : behindInMarks op r = false)
    (h : wpG M A (eval l env) (fun a s₁ => wpG M A (eval r env) (fun b s₂ => wpAny M A (compareOp op a b) Q F0 s₂) s₁) s) : wpG M A (eval (.Compare l [op] [r] pos) env) Q s := by
  rw [eval_Compare1, markedBehindIn_of_false hm]
  exact G_bind (G_mono h fun a s₁ h₁ => G_bind (G_holding (G_mono h₁ fun b s₂ h₂ => G_stand (G_operate (G_of h₂)))))
theorem X_UnaryOp {op : UnaryOp} {x : Expr} {pos : Pos} {Q : Value → Shared → Prop} (h : wpG M A (eval x env) (fun v s₁ => wpAny M A (unaryOp op v) Q F0 s₁) s) : wpG M A (eval (.UnaryOp op x pos) env) Q s := by
  rw [arm_eval_UnaryOp]
  exact G_bind (G_mono h fun v s₁ h₁ => G_stand (G_holding (G_of h₁)))
theorem X_IfExp {test body orelse : Expr} {pos : Pos} {Q : Value → Shared → Prop}
    (h : wpG M A (isTrue test env (eval test env)) (fun b s₁ => if b then wpG M A (eval body env) Q s₁ else wpG M A (eval orelse env) Q s₁) s) : wpG M A (eval (.IfExp test body orelse pos) env) Q s := by
  rw [arm_eval_IfExp]
  refine G_bind (G_mono h fun b s₁ h₁ => ?_)
  cases b <;> exact h₁
theorem X_And2 {x y : Expr} {pos : Pos} {Q : Value → Shared → Prop}
    (h : wpG M A (eval x env) (fun v s₁ => ∃ b, v = .bool b ∧ if b then wpG M A (eval y env) Q s₁ else Q v s₁) s) : wpG M A (eval (.BoolOp .And [x, y] pos) env) Q s := by
  rw [arm_eval_BoolOp]
  show wpG M A (eval x env >>= _) Q s
  refine G_bind (G_mono h fun v s₁ h₁ => ?_)
  obtain ⟨b, rfl, h₁⟩ := h₁
  refine G_stand (G_bind (G_holding (G_of (wpAny_truthy_bool ?_))))
  cases b
  · exact G_pure h₁
  · exact h₁
theorem X_Or2 {x y : Expr} {pos : Pos} {Q : Value → Shared → Prop}
    (h : wpG M A (eval x env) (fun v s₁ => ∃ b, v = .bool b ∧ if b then Q v s₁ else wpG M A (eval y env) Q s₁) s) : wpG M A (eval (.BoolOp .Or [x, y] pos) env) Q s := by
  rw [arm_eval_BoolOp]
  show wpG M A (eval x env >>= _) Q s
  refine G_bind (G_mono h fun v s₁ h₁ => ?_)
  obtain ⟨b, rfl, h₁⟩ := h₁
  refine G_stand (G_bind (G_holding (G_of (wpAny_truthy_bool ?_))))
  cases b
  · exact h₁
  · exact G_pure h₁
theorem T_Not {x : Expr} {pos : Pos} {whole : Sem Value} {Q : Bool → Shared → Prop} (h : wpG M A (isTrue x env (eval x env)) (fun b s₁ => Q (!b) s₁) s) : wpG M A (isTrue (.UnaryOp .Not x pos) env whole) Q s := by
  rw [arm_isTrue_UnaryOp]
  exact G_bind (G_mono h fun b s₁ h₁ => G_pure h₁)
theorem T_value {e : Expr} {whole : Sem Value} {Q : Bool → Shared → Prop} (he : isTrue e env whole = (do let v ← whole; standAt e.pos; holding [v] (truthy v)))
    (h : wpG M A whole (fun v s₁ => ∃ b, v = .bool b ∧ Q b s₁) s) : wpG M A (isTrue e env whole) Q s := by
  rw [he]
  refine G_bind (G_mono h fun v s₁ h₁ => ?_)
  obtain ⟨b, rfl, h₁⟩ := h₁
  exact G_stand (G_holding (G_of (wpAny_truthy_bool h₁)))

/-- plain arguments, one by one -/
noncomputable def Args (M : Model) (A : Around) (env : Env) : List Expr → (List Value → Shared → Prop) → Shared → Prop
  | [], Q, s => Q [] s
  | e :: r, Q, s => wpG M A (eval e env) (fun v s₁ => Args M A env r (fun vs s₂ => Q (v :: vs) s₂) s₁) s
theorem Args.mono : ∀ {es : List Expr} {Q Q' : List Value → Shared → Prop} {s : Shared}, Args M A env es Q s → (∀ vs s', Q vs s' → Q' vs s') → Args M A env es Q' s
  | [], _, _, _, h, k => k _ _ h
  | e :: r, _, _, _, h, k => G_mono h fun v s₁ h₁ => Args.mono h₁ fun vs s' => k _ _
theorem star_no {e : Expr} {rest : List Expr} (h : noStar e = true) : starEach (e :: rest) env = (false, eval e env) :: starEach rest env := by
  cases e <;> first | rfl | cases h
theorem G_spliced {pos : Pos} : ∀ {es : List Expr} {Q : List Value → Shared → Prop} {s : Shared}, es.all noStar = true → Args M A env es Q s → wpG M A (spliced (backTo pos (starEach es env))) Q s
  | [], Q, s, _, h => G_pure h
  | e :: r, Q, s, hs, h => by
    rw [List.all_cons, Bool.and_eq_true] at hs
    rw [star_no hs.1]
    show wpG M A (do
      let v ← eval e env
      let here ← (pure [v] : Sem (List Value))
      return here ++ (← holding here (spliced (backTo pos (starEach r env))))) Q s
    exact G_bind (G_mono h fun v s₁ h₁ => G_bind (G_pure (G_bind (G_holding (G_mono (G_spliced hs.2 h₁) fun vs s₂ h₂ => G_pure h₂)))))
theorem fst_false {es : List Expr} (h : es.all noStar = true) (pos : Pos) : (backTo pos (starEach es env)).any (·.1) = false := by
  induction es with
  | nil => rfl
  | cons e r ih =>
    rw [List.all_cons, Bool.and_eq_true] at h
    rw [star_no h.1]
    exact ih h.2
theorem len_trees {es : List Expr} (h : es.all noStar = true) (pos : Pos) : (backTo pos (starEach es env)).length = es.length := by
  induction es with
  | nil => rfl
  | cons e r ih =>
    rw [List.all_cons, Bool.and_eq_true] at h
    rw [star_no h.1]
    exact congrArg (· + 1) (ih h.2)
theorem X_List {es : List Expr} {pos : Pos} {Q : Value → Shared → Prop} (hs : es.all noStar = true)
    (h : Args M A env es (fun vs s₁ => vs.length ≤ sizeLine ∧ Q (.ref s₁.heap.objs.size) { s₁ with heap := s₁.heap.push { cls := .type "list", data := .seq vs.toArray } }) s) : wpG M A (eval (.List es pos) env) Q s := by
  rw [arm_eval_List]
  exact G_stand (G_bind (G_mono (G_spliced hs h) fun vs s₁ h₁ => G_of (wpAny_newObj_type h₁.2 (by show vs.toArray.size ≤ sizeLine; rw [List.size_toArray]; exact h₁.1))))
theorem X_Tuple {es : List Expr} {k : Nat} {pos : Pos} {Q : Value → Shared → Prop} (hs : es.all noStar = true)
    (h : Args M A env es (fun vs s₁ => vs.length ≤ sizeLine ∧ Q (.ref s₁.heap.objs.size) { s₁ with heap := s₁.heap.push { cls := .type "tuple", data := .seq vs.toArray } }) s) : wpG M A (eval (.Tuple es k pos) env) Q s := by
  rw [arm_eval_Tuple]
  exact G_stand (G_bind (G_mono (G_spliced hs h) fun vs s₁ h₁ => G_of (wpAny_newObj_type h₁.2 (by show vs.toArray.size ≤ sizeLine; rw [List.size_toArray]; exact h₁.1))))

theorem G_evalArgs {f : Value} {pos : Pos} {e : Expr} {r : List Expr} {Q : PySem.Args → Shared → Prop} (hs : (e :: r).all noStar = true) (h : Args M A env (e :: r) (fun vs s₁ => Q ⟨vs, []⟩ s₁) s) :
    wpG M A (evalArgs f true (backTo pos (starEach (e :: r) env)) []) Q s := by
  have h' := G_spliced (pos := pos) hs h
  have hs' := hs
  rw [List.all_cons, Bool.and_eq_true] at hs'
  have e1 : backTo pos (starEach (e :: r) env) = (false, eval e env) :: backTo pos (starEach r env) := by rw [star_no hs'.1]; rfl
  rw [e1] at h' ⊢
  unfold evalArgs
  show wpG M A (spliced ((false, eval e env) :: backTo pos (starEach r env)) >>= _) Q s
  refine G_bind (G_mono h' fun vs s₁ h₁ => ?_)
  refine G_holding ?_
  exact G_bind (G_pure (G_bind (G_pure (G_pure h₁))))

theorem G_callWith_type {pos : Pos} {T : String} {e : Expr} {r : List Expr} {Q : Value → Shared → Prop} (hs : (e :: r).all noStar = true)
    (h : Args M A env (e :: r) (fun vs s₁ => wpG M A (call (.type T) vs []) Q s₁) s) : wpG M A (callWith pos (.type T) [] (backTo pos (starEach (e :: r) env)) []) Q s := by
  unfold callWith
  refine G_bind (G_holding (G_mono (G_evalArgs (Q := fun a s₁ => wpG M A (call (.type T) a.pos a.kw) Q s₁) hs h) fun a s₁ h₁ => G_stand ?_))
  simp only [fst_false hs, List.any_nil, Bool.or_false]
  refine G_bind (G_pure ?_)
  exact G_bind (G_mono h₁ fun r s₂ hr => G_bind (G_holding (G_point (G_pure hr))))
theorem G_callWith_builtin {pos : Pos} {id : String} {e : Expr} {r : List Expr} {first : List Value} {Q : Value → Shared → Prop} (hs : (e :: r).all noStar = true)
    (h : Args M A env (e :: r) (fun vs s₁ => wpG M A (call (.builtin id) (first ++ vs) []) Q s₁) s) : wpG M A (callWith pos (.builtin id) first (backTo pos (starEach (e :: r) env)) []) Q s := by
  unfold callWith
  refine G_bind (G_holding (G_mono (G_evalArgs (Q := fun a s₁ => wpG M A (call (.builtin id) (first ++ a.pos) a.kw) Q s₁) hs h) fun a s₁ h₁ => G_stand ?_))
  simp only [fst_false hs, List.any_nil, Bool.or_false]
  refine G_bind (G_pure ?_)
  exact G_bind (G_mono h₁ fun r s₂ hr => G_bind (G_holding (G_point (G_pure hr))))
theorem G_keep {α : Type} {vs : List Value} {m : Sem α} {Q : α → Shared → Prop} (h : wpG M A m Q s) : wpG M A (m.keep vs) Q s :=
  fun Γ p i k => by rw [Sem.wp_keep]; exact h Γ p i k
theorem G_callWith_function {pos : Pos} {a : Addr} {e : Expr} {r : List Expr} {Q : Value → Shared → Prop} (hs : (e :: r).all noStar = true) (hl : (e :: r).length ≤ 30)
    (h : Args M A env (e :: r) (fun vs s₁ => (∃ o fd, s₁.heap.get? a = some o ∧ o.data = .func fd) ∧ wpG M A (call (.ref a) vs []) Q s₁) s) : wpG M A (callWith pos (.ref a) [] (backTo pos (starEach (e :: r) env)) []) Q s := by
  unfold callWith
  refine G_bind (G_holding (G_mono (G_evalArgs (Q := fun x s₁ => (∃ o fd, s₁.heap.get? a = some o ∧ o.data = .func fd) ∧ wpG M A (call (.ref a) x.pos x.kw) Q s₁) hs h) fun x s₁ h₁ => G_stand ?_))
  obtain ⟨⟨o, fd, ho, hd⟩, h₁⟩ := h₁
  simp only [fst_false hs, List.any_nil, Bool.or_false, len_trees hs]
  refine G_bind (m := keeperOf (.ref a)) ?_
  unfold keeperOf
  refine G_obind (wpAny_load ho ?_)
  rw [hd]
  refine G_pure ?_
  show wpG M A (if (e :: r).length + 2 * ([] : List (Option Str × Sem Value)).length > 30 then _ else _) _ _
  rw [if_neg (by simp only [List.length_nil]; omega)]
  unfold callMarked
  exact G_bind (G_keep (G_mono h₁ fun r s₂ hr => G_bind (G_holding (G_point (G_pure hr)))))
theorem X_CallName {id : Str} {p pos : Pos} {args : List Expr} {Q : Value → Shared → Prop}
    (h : wpG M A (eval (.Name id p) env) (fun f s₁ => wpG M A (callWith pos f [] (backTo pos (starEach args env)) []) Q s₁) s) :
    wpG M A (eval (.Call (.Name id p) args [] pos) env) Q s := by
  show wpG M A (do callWith pos (← eval (.Name id p) env) [] (backTo pos (starEach args env)) (backToKw pos (keywordEach [] env))) Q s
  exact G_bind h

/-- what a subscript needs: the plain road -/
noncomputable def SubOn (M : Model) (A : Around) (o i : Value) (Q : Value → Shared → Prop) (s : Shared) : Prop :=
  ∃ T id, typeLookup (.type T) "__getitem__" = pure (some (.builtin id)) ∧ s.TypeIs o T ∧ wpAny M A (getItem o i) Q F0 s
theorem subscripted_plain {slice : Expr} (h : notSlice slice = true) (o i : Value) : subscripted slice false o i = operate [o, i] (getItem o i) := by
  cases slice <;> first | rfl | cases h
theorem G_inPython {o : Value} {T id : String} {Q : Bool → Shared → Prop} (hl : typeLookup (.type T) "__getitem__" = pure (some (.builtin id))) (hT : s.TypeIs o T) (h : Q false s) : wpAny M A (getitemInPython o) Q F0 s := by
  rw [getitemInPython_of_ne hT.not_modules]
  exact wpAny_bind (wpAny_specialOf hT hl (wpAny_pure h))
/-- one bound of a slice -/
noncomputable def Opt (M : Model) (A : Around) (env : Env) : Option Expr → (Value → Shared → Prop) → Shared → Prop
  | none, Q, s => Q .none s
  | some e, Q, s => wpG M A (eval e env) Q s
theorem G_opt {o : Option Expr} {Q : Value → Shared → Prop} (h : Opt M A env o Q s) : wpG M A (valueOrNone (evalOpt o env)) Q s := by
  cases o with
  | none => exact G_pure h
  | some e => exact h
theorem Opt.mono {o : Option Expr} {Q Q' : Value → Shared → Prop} (h : Opt M A env o Q s) (k : ∀ v s', Q v s' → Q' v s') : Opt M A env o Q' s := by
  cases o with
  | none => exact k _ _ h
  | some e => exact G_mono h k
end

section
variable {prog : Program} {w : World} {A : Around} {s : Shared} {env : Env}
theorem X_Subscript {value slice : Expr} {pos : Pos} {Q : Value → Shared → Prop} (hn : notSlice slice = true)
    (h : wpG (model prog w) A (eval value env) (fun o s₁ => wpG (model prog w) A (eval slice env) (fun i s₂ => SubOn (model prog w) A o i Q s₂) s₁) s) :
    wpG (model prog w) A (eval (.Subscript value slice pos) env) Q s := by
  rw [eval_Subscript]
  refine G_bind (G_mono h fun o s₁ h₁ => G_bind (G_holding (G_mono h₁ fun i s₂ h₂ => G_stand ?_)))
  obtain ⟨T, id, hl, hT, hg⟩ := h₂
  refine G_obind (G_inPython hl hT ?_)
  rw [subscripted_plain hn]
  exact G_bind (G_operate (G_of (wpAny_mono hg (fun r s₃ h₃ => G_obind (wpAny_letTemporaryGo (G_pure h₃))) fun _ _ x => x)))
noncomputable abbrev sliceObj (l u : Value) : Obj := { cls := .type "slice", data := .fields #[l, u, .none] }
theorem X_Slice {value : Expr} {lo hi : Option Expr} {sp pos : Pos} {Q : Value → Shared → Prop}
    (h : wpG (model prog w) A (eval value env) (fun o s₁ => Opt (model prog w) A env lo (fun l s₂ => Opt (model prog w) A env hi (fun u s₃ =>
      SubOn (model prog w) A o (.ref s₃.heap.objs.size) Q { s₃ with heap := s₃.heap.push (sliceObj l u) }) s₂) s₁) s) :
    wpG (model prog w) A (eval (.Subscript value (.Slice lo hi none sp) pos) env) Q s := by
  rw [eval_Subscript]
  refine G_bind (G_mono h fun o s₁ h₁ => G_bind (G_holding ?_))
  rw [arm_eval_Slice]
  refine G_bind (G_mono (G_opt h₁) fun l s₂ h₂ => G_bind (G_holding (G_mono (G_opt h₂) fun u s₃ h₃ => G_bind (G_holding ?_))))
  show wpG (model prog w) A (pure Value.none) _ _
  refine G_pure (G_of (wpAny_newObj_type (hd := by size_fits) ?_))
  refine G_stand ?_
  obtain ⟨T, id, hl, hT, hg⟩ := h₃
  refine G_obind (G_inPython hl hT ?_)
  show wpG (model prog w) A (operate _ (getItem _ _) >>= _) _ _
  exact G_bind (G_operate (G_of (wpAny_mono hg (fun r s₃ h₃ => G_obind (wpAny_letTemporaryGo (G_pure h₃))) fun _ _ x => x)))
end
end Mine
end
section
open PySem PySem.W PyProof.Rows
open Sem (wp)
set_option Elab.async false
set_option maxRecDepth 100000
set_option linter.unusedVariables false
namespace Mine

section
variable {prog : Program} {w : World} {A : Around} {s : Shared} {env : Env}

theorem swaps_not {value : Expr} {t : Option Expr} {l : Nat} (h : notComp value = true) : swapsWith value t l env = pure false := by
  cases value <;> first | rfl | cases h
theorem S_Assign {x pos' value pos} {Q : Flow → Shared → Prop} (hs : swapsWith value (some (.Name x pos')) pos.line env = pure false)
    (h : wpG (model prog w) A (eval value env) (fun v s₁ => wpAny (model prog w) A (storeName env x v) (fun _ => Q .next) F0 s₁) s) : wpG (model prog w) A (exec (.Assign [.Name x pos'] value pos) env) Q s := by
  rw [exec_Assign_Name env x pos' value pos hs]
  exact G_stand (G_bind (G_mono h fun v s₁ h₁ => G_stand (G_bind (G_of (wpAny_bindName (wpAny_mono h₁ (fun _ s₂ h₂ => G_pure h₂) fun _ _ x => x))))))
theorem S_AssignSub {o i pos' value pos} {Q : Flow → Shared → Prop} (hs : swapsWith value (some (.Subscript o i pos')) pos.line env = pure false)
    (h : wpG (model prog w) A (eval value env) (fun v s₁ => wpG (model prog w) A (eval o env) (fun ov s₂ => wpG (model prog w) A (eval i env) (fun iv s₃ =>
      wpAny (model prog w) A (setItem ov iv v) (fun _ => Q .next) F0 s₃) s₂) s₁) s) : wpG (model prog w) A (exec (.Assign [.Subscript o i pos'] value pos) env) Q s := by
  rw [exec_Assign_Subscript o i pos' value pos hs]
  refine G_stand (G_bind (G_mono h fun v s₁ h₁ => G_bind (G_eq (assign_Subscript (env := env) o i pos' v) (G_bind (G_holding (G_mono h₁ fun ov s₂ h₂ => G_bind (G_holding (G_mono h₂ fun iv s₃ h₃ => G_stand (G_bind (G_holding (G_of (wpAny_mono h₃ (fun _ s₄ h₄ => ?_) fun _ _ x => x))))))))))))
  intro Γ p i k
  rw [Sem.wp_release]
  exact G_pure h₄
theorem S_Aug {x pos' op value pos} {Q : Flow → Shared → Prop}
    (h : wpAny (model prog w) A (loadName env x) (fun old s₁ => wpG (model prog w) A (eval value env) (fun v s₂ => wpAny (model prog w) A (inplaceOp op old v)
      (fun r s₃ => wpAny (model prog w) A (storeName env x r) (fun _ => Q .next) F0 s₃) F0 s₂) s₁) F0 s) : wpG (model prog w) A (exec (.AugAssign (.Name x pos') op value pos) env) Q s := by
  rw [exec_AugAssign_Name]
  exact G_stand (G_obind (wpAny_mono h (fun old s₁ h₁ => G_bind (G_holding (G_mono h₁ fun v s₂ h₂ => G_stand (G_bind (G_operate (G_of (wpAny_mono h₂ (fun r s₃ h₃ => G_stand (G_bind (G_of (wpAny_bindName (wpAny_mono h₃ (fun _ s₄ h₄ => G_pure h₄) fun _ _ x => x))))) fun _ _ x => x))))))) fun _ _ x => x))
theorem S_Expr {e pos} {Q : Flow → Shared → Prop} (hf : env.scope.kind = .function) (hc : notComp e = true) (h : wpG (model prog w) A (eval e env) (fun v s' => v = .none ∧ Q .next s') s) : wpG (model prog w) A (exec (.Expr e pos) env) Q s := by
  have hi : interactive env = false := by unfold interactive; rw [hf]; rfl
  rw [exec_Expr env e pos hi (swaps_not hc)]
  refine G_stand (G_bind (G_mono h fun v s₁ h₁ => ?_))
  obtain ⟨rfl, h₁⟩ := h₁
  rw [dropValue_plain fun a e => by cases e]
  exact G_pure h₁
theorem S_If {test body orelse pos} {Q : Flow → Shared → Prop}
    (h : wpG (model prog w) A (isTrue test env (eval test env)) (fun b s₂ => if b then wpG (model prog w) A (execs body env) Q s₂ else wpG (model prog w) A (execs orelse env) Q s₂) s) :
    wpG (model prog w) A (exec (.If test body orelse pos) env) Q s := by
  rw [exec_If]
  refine G_stand (G_bind (G_mono h fun b s₂ h₂ => ?_))
  cases b <;> exact h₂
theorem S_Return {e pos} {Q : Flow → Shared → Prop} (h : wpG (model prog w) A (eval e env) (fun v => Q (.ret v)) s) : wpG (model prog w) A (exec (.Return (some e) pos) env) Q s := by
  rw [exec_Return_some]
  exact G_stand (G_bind (G_mono h fun v s₁ h₁ => G_pure h₁))
theorem S_While {test body orelse pos} {Q : Flow → Shared → Prop} (h : codeG (model prog w) A (.whileLoop test body orelse env) Q s) : wpG (model prog w) A (exec (.While test body orelse pos) env) Q s := by
  rw [exec_While]; exact G_stand (G_runOwn h)
theorem folded_not {iter : Expr} (h : notSet iter = true) (x : Value) : foldedSetIterable iter env x = pure x := by
  cases iter <;> first | rfl | cases h
theorem S_For {target iter body orelse pos} {Q : Flow → Shared → Prop} (hs : notSet iter = true)
    (h : wpG (model prog w) A (eval iter env) (fun x s₁ => wpAny (model prog w) A (pyIter x) (fun it s₂ => codeG (model prog w) A (.forLoop target it body orelse env) Q s₂) F0 s₁) s) :
    wpG (model prog w) A (exec (.For target iter body orelse pos) env) Q s := by
  rw [exec_For]
  refine G_stand (G_bind (G_mono h fun x s₁ h₁ => G_bind (G_eq (folded_not hs x) (G_pure (G_stand (G_bind (G_holding (G_of (wpAny_mono h₁ (fun it s₂ h₂ => G_runOwn h₂) fun _ _ x => x)))))))))

theorem C_while {test body : _} {R : Flow → Shared → Prop}
    (h : wpG (model prog w) A (isTrue test env (eval test env)) (fun b s₂ => if b then wpG (model prog w) A (execs body env) (fun f s₃ => match f with
        | .next | .cont => codeG (model prog w) A (.whileLoop test body [] env) R s₃
        | .brk => R .next s₃
        | .ret v => R (.ret v) s₃) s₂ else R .next s₂) s) : codeG (model prog w) A (.whileLoop test body [] env) R s := by
  refine C_tree ?_
  show wpG _ A ((whileTurn test body [] env).onRaise (fun x => do noteFrame x env; theTreesLotGoes x)) _ s
  refine G_onRaise ?_
  simp only [whileTurn]
  refine G_bind (G_mono h fun b s₂ h₂ => ?_)
  cases b with
  | false =>
    simp only [Bool.false_eq_true, if_false] at h₂ ⊢
    exact G_bind (X_nil (G_pure h₂))
  | true =>
    simp only [if_true] at h₂ ⊢
    refine G_bind (G_mono h₂ fun f s₃ h₃ => ?_)
    cases f with
    | next => exact G_pure ⟨rfl, rfl, h₃⟩
    | cont => exact G_pure ⟨rfl, rfl, h₃⟩
    | brk => exact G_pure h₃
    | ret v => exact G_pure h₃
theorem C_block_nil {R : Flow → Shared → Prop} (h : R .next s) : codeG (model prog w) A (.block [] env) R s := by
  refine C_tree ?_
  show wpG _ A (do return Fin.done (← (execs [] env).onRaise (fun x => do noteFrame x env; theTreesLotGoes x))) _ s
  exact G_bind (G_onRaise (X_nil (G_pure h)))
theorem C_for {target it body : _} {R : Flow → Shared → Prop}
    (h : wpAny (model prog w) A (pyNext it) (fun r s₁ => match r with
      | none => R .next s₁
      | some v => wpAny (model prog w) A (letOwnedTupleGo target it v) (fun _ s₂ => wpAny (model prog w) A (assign target env v) (fun _ s₃ => wpG (model prog w) A (execs body env) (fun f s₄ => match f with
        | .next | .cont => codeG (model prog w) A (.forLoop target it body [] env) R s₄
        | .brk => R .next s₄
        | .ret v => R (.ret v) s₄) s₃) F0 s₂) F0 s₁) F0 s) : codeG (model prog w) A (.forLoop target it body [] env) R s := by
  refine C_tree ?_
  show wpG _ A ((forTurn target it body [] env).onRaise (fun x => do noteFrame x env; theTreesLotGoes x)) _ s
  refine G_onRaise ?_
  simp only [forTurn]
  refine G_stand (G_bind (G_onRaise (G_of (wpAny_mono h (fun r s₁ h₁ => ?_) fun _ _ x => x))))
  cases r with
  | none => exact G_pure ⟨rfl, rfl, C_block_nil h₁⟩
  | some v =>
    refine G_obind (wpAny_mono h₁ (fun _ s₂ h₂ => G_obind (wpAny_mono h₂ (fun _ s₃ h₃ => G_bind (G_mono h₃ fun f s₄ h₄ => ?_)) fun _ _ x => x)) fun _ _ x => x)
    cases f with
    | next => exact G_pure ⟨rfl, rfl, h₄⟩
    | cont => exact G_pure ⟨rfl, rfl, h₄⟩
    | brk => exact G_pure h₄
    | ret v => exact G_pure h₄
theorem C_func {body : List Stmt} {R : Flow → Shared → Prop} (h : wpG (model prog w) (A.deeper env) (execs body env) (fun f s' => R (.ret (match f with | .ret v => v | _ => .none)) s') s) : codeG (model prog w) A (.func body env) R s := by
  refine C_tree ?_
  show wpG _ (A.deeper env) (do point; match ← (execs body env).onRaise (leaving env) with | .ret v => ret v | _ => ret .none) _ s
  refine G_bind (G_point (G_bind (G_onRaise (G_mono h fun f s' h' => ?_))))
  cases f <;> exact G_pure h'
theorem C_function {a : Addr} {args : PySem.Args} {o : Obj} {fd : FuncData} {body : List Stmt} {R : Flow → Shared → Prop} {binds : List (Str × Value)} (hroom : A.depth < recursionLimit)
    (ho : s.heap.get? a = some o) (hd' : o.data = .func fd) (hco : fd.scope.isCoroutine = false) (hgen : fd.scope.isGenerator = false) (hbody : fd.body = .stmts body) (hcd : s.heap.CodeRec fd.code fd.qualname)
    (hb : bindArgs fd args = pure binds)
    (h : wpAny (model prog w) A.in1 (newFunctionEnv fd.scope fd.globals fd.closure binds (fd.qualname ++ ".<locals>.") (some a) fd.code none fd.builtins) (fun env s₂ => s₂.heap.NoLimit ∧ codeG (model prog w) A (.func body env) R s₂) F0 s) :
    codeG (model prog w) A (.call (.ref a) args) R s := by
  refine C_tree ?_
  show wpG _ A.in1 (callAny (.ref a) args) _ s
  simp only [callAny]
  refine G_obind (wpAny_load ho ?_)
  obtain ⟨c, oc, vs, tq, hc, hoc, hdc, hq⟩ := hcd
  simp only [hd', callFunction, hco, hgen, hbody, hc, hb]
  rw [hc] at h
  refine G_obind (m := field (.ref c) 1) (wpAny_field hoc hdc hq (G_bind (G_pure ?_)))
  refine G_bind (G_pure ?_)
  refine G_obind (wpAny_mono h (fun env s₂ h₂ => G_obind (wpAny_enterFrame h₂.1 hroom (G_pure ⟨rfl, rfl, h₂.2⟩))) fun _ _ x => x)
end
end Mine
end
section
open PySem PySem.W PyProof.Rows
open Sem (wp)
set_option Elab.async false
set_option maxRecDepth 100000
set_option linter.unusedVariables false
namespace Mine

section
variable {prog : Program} {w : World} {A : Around} {s : Shared} {env : Env}

theorem compTurn_mine {elt : Expr} {gens : List Comprehension} {scope : Scope} {pos : Pos} {d : Nat} {it acc : Value} {tgt iter : Expr} (hg : gens[d]? = some ⟨tgt, iter, [], 0⟩) :
    compTurn (.ListComp elt gens scope pos) d it acc env = (standAt iter.pos >>= fun _ => pyNext it >>= fun r => match r with
      | none => pure (.done .next)
      | some v => letOwnedTupleGo tgt it v >>= fun _ => assign tgt env v >>= fun _ =>
        (match gens[d + 1]? with
          | some g' => do
            let x ← eval g'.iter env
            standAt g'.iter.pos
            let x ← if g'.is_async != 0 then foldedIterable g'.iter x else foldedSetIterable g'.iter env x
            let _ ← runOwn (.compStart (.ListComp elt gens scope pos) (d + 1) (← holding [x] (if g'.is_async != 0 then asyncIter x else pyIter x)) acc env) env
            again (.compLoop (.ListComp elt gens scope pos) d it acc env)
          | none => do
            let x ← eval elt env
            let _ ← call (.builtin "list.append") [acc, x]
            again (.compLoop (.ListComp elt gens scope pos) d it acc env))) := by
  unfold compTurn
  simp only [hg, bne_self_eq_false, Bool.false_eq_true, if_false, List.forIn_nil, pure_bind, if_true, bind_assoc]
  refine congrArg _ (funext fun _ => congrArg _ (funext fun r => ?_))
  cases r with
  | none => rfl
  | some v =>
    dsimp only
    refine congrArg _ (funext fun _ => congrArg _ (funext fun _ => ?_))
    cases gens[d + 1]? <;> rfl

theorem C_start {elt : Expr} {gens : List Comprehension} {scope : Scope} {pos : Pos} {d : Nat} {it acc : Value} {tgt iter : Expr} {R : Flow → Shared → Prop} (hg : gens[d]? = some ⟨tgt, iter, [], 0⟩)
    (h0 : codeG (model prog w) A (.compLoop (.ListComp elt gens scope pos) d it acc env) R s)
    (h : wpAny (model prog w) A (pyIter it) (fun it' s' => codeG (model prog w) A (.compLoop (.ListComp elt gens scope pos) d it' acc env) R s') F0 s) :
    codeG (model prog w) A (.compStart (.ListComp elt gens scope pos) d it acc env) R s := by
  refine C_tree ?_
  show wpG _ _ ((compStart (.ListComp elt gens scope pos) d it acc env).onRaise (fun x => do noteFrame x env; standAt theWindowsPlace)) _ s
  refine G_onRaise ?_
  unfold compStart
  show wpG _ _ (if (gens[d]?.elim false fun x => x.is_async != 0) = true then _ else _) _ s
  rw [hg]
  show wpG _ _ (ask >>= _) _ s
  refine G_obind (wpAny_askSetting ?_)
  split
  · first
      | exact G_bind (G_pure (G_pure ⟨rfl, rfl, h0⟩))
      | exact G_pure ⟨rfl, rfl, h0⟩
  · refine G_bind (G_rule ?_)
    show wpG _ _ (match gens[d]? with | some g => _ | _ => _) _ s
    rw [hg]
    exact G_stand (G_obind (wpAny_mono h (fun it' s' h' => G_pure ⟨rfl, rfl, h'⟩) fun _ _ x => x))

theorem C_loop {elt : Expr} {gens : List Comprehension} {scope : Scope} {pos : Pos} {d : Nat} {it acc : Value} {tgt iter : Expr} {R : Flow → Shared → Prop} (hg : gens[d]? = some ⟨tgt, iter, [], 0⟩)
    (h : wpAny (model prog w) A (pyNext it) (fun r s₁ => match r with
      | none => R .next s₁
      | some v => wpAny (model prog w) A (letOwnedTupleGo tgt it v) (fun _ s₂ => wpAny (model prog w) A (assign tgt env v) (fun _ s₃ => match gens[d + 1]? with
        | some g' => g'.is_async = 0 ∧ notSet g'.iter = true ∧ wpG (model prog w) A (eval g'.iter env) (fun x s₄ => wpAny (model prog w) A (pyIter x) (fun it' s₅ =>
            codeG (model prog w) A (.compStart (.ListComp elt gens scope pos) (d + 1) it' acc env) (fun _ s₆ => codeG (model prog w) A (.compLoop (.ListComp elt gens scope pos) d it acc env) R s₆) s₅) F0 s₄) s₃
        | none => wpG (model prog w) A (eval elt env) (fun x s₄ => wpAny (model prog w) A (call (.builtin "list.append") [acc, x]) (fun _ s₅ =>
            codeG (model prog w) A (.compLoop (.ListComp elt gens scope pos) d it acc env) R s₅) F0 s₄) s₃) F0 s₂) F0 s₁) F0 s) :
    codeG (model prog w) A (.compLoop (.ListComp elt gens scope pos) d it acc env) R s := by
  refine C_tree ?_
  show wpG _ _ ((compTurn (.ListComp elt gens scope pos) d it acc env).onRaise (fun x => do noteFrame x env; theTreesLotGoes x)) _ s
  refine G_onRaise ?_
  rw [compTurn_mine hg]
  refine G_stand (G_obind (wpAny_mono h (fun r s₁ h₁ => ?_) fun _ _ x => x))
  cases r with
  | none => exact G_pure h₁
  | some v =>
    refine G_obind (wpAny_mono h₁ (fun _ s₂ h₂ => G_obind (wpAny_mono h₂ (fun _ s₃ h₃ => ?_) fun _ _ x => x)) fun _ _ x => x)
    cases hn : gens[d + 1]? with
    | none =>
      rw [hn] at h₃
      exact G_bind (G_mono h₃ fun x s₄ h₄ => G_obind (wpAny_mono h₄ (fun _ s₅ h₅ => G_pure ⟨rfl, rfl, h₅⟩) fun _ _ x => x))
    | some g' =>
      rw [hn] at h₃
      obtain ⟨ha, hs, h₃⟩ := h₃
      have ha' : (g'.is_async != 0) = false := by rw [ha]; rfl
      simp only [ha', Bool.false_eq_true, if_false]
      exact G_bind (G_mono h₃ fun x s₄ h₄ => G_stand (G_bind (G_eq (folded_not hs x) (G_pure (G_bind (G_holding (G_of (wpAny_mono h₄ (fun it' s₅ h₅ =>
        G_bind (G_runOwn (C_mono h₅ fun _ s₆ h₆ => G_pure ⟨rfl, rfl, h₆⟩))) fun _ _ x => x))))))))

/-- the frame of a comprehension -/
noncomputable def compEnvM (scope : Scope) (cl : List (Str × Addr)) (C : Addr) (env : Env) : Env :=
  compEnvC scope (cellsFrom (C + 1) scope.names cl) C env
theorem N_comp {scope : Scope} {cl : List (Str × Addr)} {Q : Env → Shared → Prop}
    (hQ : ∀ e : Env, { e with scope := relabel scope env } = compEnvM scope cl s.heap.objs.size env → e.locals = s.heap.objs.size →
      Q e { s with heap := pushCells (s.heap.push { cls := .type "dict", data := .dict #[] }) scope.names }) :
    wpAny (model prog w) A (newFunctionEnv scope env.globals cl [] env.qual none .none (some env)) Q F0 s := by
  simp only [newFunctionEnv, Option.isSome_some, if_true]
  refine wpAny_bind (wpAny_alloc ?_)
  refine wpAny_bind (wpAny_layCells _ (fun name kind cells => by cases hkc : kind == NameKind.cell <;> simp [hkc]) _ _ _ _ ?_)
  rw [show ({ s with heap := s.heap.push { cls := .type "dict", data := .dict #[] } } : Shared).heap.objs.size = s.heap.objs.size + 1 from Heap.size_push ..]
  refine wpAny_bind ?_
  rw [List.forIn_nil]
  exact wpAny_pure (wpAny_pure (hQ _ rfl rfl))

/-- what a comprehension hands on -/
noncomputable def CPost (prog : Program) (w : World) (A : Around) (use : Option (Value → Sem Unit)) (Q : Value → Shared → Prop) (acc : Value) (C : Addr) (s' : Shared) : Prop :=
  match use with
  | none => ∃ m, s'.heap.Ns C m ∧ ∀ h', Heap.SameBut C s'.heap h' → Q acc { s' with heap := h' }
  | some u => wpAny (model prog w) A (u acc) (fun _ s'' => ∃ m, s''.heap.Ns C m ∧ ∀ h', Heap.SameBut C s''.heap h' → Q .none { s'' with heap := h' }) F0 s'
theorem X_comp {e : Expr} {scope : Scope} {pos : Pos} {first : Sem Value} {g : Comprehension} {gs : List Comprehension} {cl : List (Str × Addr)} {use : Option (Value → Sem Unit)} {Q : Value → Shared → Prop}
    (hcl : clausesOf e = g :: gs) (hs : notSet g.iter = true) (hclos : closureFor scope env = pure cl)
    (hkind : scope.kind = .function) (hnames : ∀ x ∈ scope.names, x.2 = .local → scope.names.lookup x.1 = some .local)
    (h : wpG (model prog w) A first (fun x s₁ => wpAny (model prog w) A (pyIter x) (fun it s₂ =>
        codeG (model prog w) A (.compStart e 0 it (.ref s₂.heap.objs.size) (compEnvM scope cl (s₂.heap.objs.size + 1) env)) (fun _ s' => CPost prog w A use Q (.ref s₂.heap.objs.size) (s₂.heap.objs.size + 1) s')
          { s₂ with heap := pushCells ((s₂.heap.push { cls := .type "list", data := .seq #[] }).push { cls := .type "dict", data := .dict #[] }) scope.names }) F0 s₁) s) :
    wpG (model prog w) A (comprehension e scope env pos (newList []) false first use) Q s := by
  unfold comprehension
  rw [hclos, hcl]
  have stIf : ∀ {α : Type} {c : Prop} [Decidable c] {pos : Pos} {k : PUnit → Sem α} {Q : α → Shared → Prop} {s : Shared}, wpG (model prog w) A (k ()) Q s → wpG (model prog w) A (if c then (standAt pos >>= k) else k ()) Q s := by
    intro α c _ pos k Q s h
    split
    · exact G_stand h
    · exact h
  refine G_bind (G_mono h fun x s₁ h₁ => G_stand (G_bind (G_eq (folded_not hs x) (G_pure (G_bind (G_holding (G_of (wpAny_mono h₁ (fun it s₂ h₂ =>
    stIf (G_obind (wpAny_newObj_type ?_))) fun _ _ x => x))))))))
  refine G_bind (G_pure (G_obind (N_comp fun cenv he hl => ?_)))
  have hz : (s₂.heap.push { cls := .type "list", dict := none, data := .seq ([] : List Value).toArray }).objs.size = s₂.heap.objs.size + 1 := Heap.size_push ..
  rw [hz] at he hl
  dsimp only
  have hv : ∀ x ∈ (scope.names.filter fun x => (x.2 == .local || x.2 == .cell) && x.1 != (".0" : Str)).reverse, x.2 = .local →
      Env.kindOf { cenv with scope := relabel scope env } x.1 = some .local := fun x hx hl => lookup_relabel_local (hnames x (List.mem_filter.mp (List.mem_reverse.mp hx)).1 hl)
  have hv' : ∀ x ∈ (scope.names.filter fun x => (x.2 == .local || x.2 == .cell) && x.1 != (".0" : Str)).reverse.drop 1 ++ (scope.names.filter fun x => (x.2 == .local || x.2 == .cell) && x.1 != (".0" : Str)).reverse.take 1,
      x.2 = .local → Env.kindOf { cenv with scope := relabel scope env } x.1 = some .local := fun x hx hl => by
    rcases List.mem_append.mp hx with h1 | h1
    · exact hv x (List.mem_of_mem_drop h1) hl
    · exact hv x (List.mem_of_mem_take h1) hl
  have he' : ({ cenv with scope := { scope with names := scope.names.map fun (n, k) => if (k == .free && env.scope.kind == .function && env.kindOf n == some .cell) = true then (n, .cell) else (n, k) } } : Env) = compEnvM scope cl (s₂.heap.objs.size + 1) env := he
  refine G_holding (G_bind (G_attempt (G_holding (G_run ?_))))
  rw [he']
  refine C_mono h₂ fun f s' hr => ?_
  cases use with
  | none =>
    obtain ⟨m, hn, hr⟩ := hr
    refine G_bind (G_holding (G_of ?_))
    rw [← he']
    rw [← hl] at hn hr
    exact wpAny_comp_letGo (cenv := { cenv with scope := relabel scope env }) hkind _ s' m hv hn fun h' m' _ hs' => G_pure (hr h' hs')
  | some u =>
    refine G_bind (G_rule (G_bind (G_holding (G_of (wpAny_mono hr (fun _ s'' hr' => ?_) fun _ _ h' => h')))))
    obtain ⟨m, hn, hr'⟩ := hr'
    refine G_obind ?_
    rw [← he']
    rw [← hl] at hn hr'
    exact wpAny_comp_letGo (cenv := { cenv with scope := relabel scope env }) hkind _ s'' m hv' hn fun h' m' _ hs' => G_pure (hr' h' hs')
end
end Mine
end
section
open PySem PySem.W PyProof.Rows
open Sem (wp)
set_option Elab.async false
set_option maxRecDepth 100000
set_option linter.unusedVariables false
namespace Mine

/-- what an item that is given looks like, for a target -/
noncomputable def Given (h : Heap) (g : Fz) (tgt : Expr) (p : PV) (v : Value) : Prop :=
  (isTupE tgt = false ∧ Rep g p v) ∨ (isTupE tgt = true ∧ ∃ ps T vs, p = .tup ps ∧ v = .ref T ∧ IsTup h T vs.toArray ∧ Reps g ps vs)

structure Src (prog : Program) (w : World) (A : Around) (tgt : Expr) (it : Value) (fp wr : List Addr) (g : Fz) (St : Nat → Heap → Prop) (its : List PV) : Prop where
  sub : ∀ b ∈ wr, b ∈ fp
  frame : ∀ i h h', St i h → (∀ b ∈ fp, ∀ o, h.get? b = some o → h'.get? b = some o) → St i h'
  alive : ∀ i h, St i h → ∀ b ∈ fp, ∃ o, h.get? b = some o ∧ ∀ v, o.data ≠ .cell v
  item : ∀ i p (s : Shared) (K : Value → Shared → Prop), its[i]? = some p → St i s.heap → Sub g s.heap →
    (∀ v h' tk, St (i + 1) h' → Keep (· ∈ wr) s.heap h' → Given h' g tgt p v → K v { s with heap := h', toks := tk }) →
    wpAny (model prog w) A (pyNext it) (fun r s₁ => match r with | none => False | some v => wpAny (model prog w) A (letOwnedTupleGo tgt it v) (fun _ s₂ => K v s₂) F0 s₁) F0 s
  done : ∀ (s : Shared) (K : Shared → Prop), St its.length s.heap → (∀ h' tk, Keep (· ∈ wr) s.heap h' → K { s with heap := h', toks := tk }) →
    wpAny (model prog w) A (pyNext it) (fun r s' => match r with | none => K s' | some _ => False) F0 s
  self : ∀ i (s : Shared) (Q : Value → Shared → Prop), St i s.heap → Q it s → wpAny (model prog w) A (pyIter it) Q F0 s

section
variable {prog : Program} {w : World} {A : Around} {s : Shared} {HG : Heap} {B g₀ : Fz} {env : Env} {fm fm' : Fm} {ρ : Str → Value} {s₀ : Shared} {g : Fz}

theorem ext_grow {h' : Heap} {tk : Tok} (hs : Sub g s.heap) (e : Ext s.heap h') : Grow s g { s with heap := h', toks := tk } g :=
  ⟨⟨rfl, rfl, rfl⟩, e, .refl _, fun b o q => e b o (hs b o q), fun _ _ q => .inl q⟩

theorem kinds_set {x : Str} {e : Ent} (h : fm.set x e = some fm') : fm'.names = fm.names ∧ storable (fm.kind x) = true ∧ fm'.vars = setE fm.vars x e := by
  unfold Fm.set at h
  split at h
  · rename_i k; cases h; exact ⟨rfl, k, rfl⟩
  · cases h
theorem mut_store {x : Str} {p : PV} {v : Value} (h : fm.set x (.val p) = some fm') {b : Addr} (m : Mut env fm' (upd ρ x v) b) : Mut env fm ρ b := by
  obtain ⟨hn, hk, hv⟩ := kinds_set h
  rcases m with rfl | ⟨y, k, c⟩ | ⟨y, f, hf, o⟩
  · exact .inl rfl
  · exact .inr (.inl ⟨y, by unfold Fm.kind at k ⊢; rwa [hn] at k, c⟩)
  · unfold Fm.get at hf
    rw [hv, look_set] at hf
    by_cases q : y = x
    · rw [if_pos q] at hf; cases hf; exact o.elim
    · rw [if_neg q] at hf
      rw [upd_other ρ v q] at o
      exact .inr (.inr ⟨y, f, hf, o⟩)

theorem nn {α : Type} {p : α} {P : Prop} (h : none = some p) : P := nomatch h
theorem nmOf_inv {e : Expr} {x : Str} (h : nmOf e = some x) : ∃ p, e = .Name x p := by
  cases e
  case Name y p => cases h; exact ⟨p, rfl⟩
  all_goals exact nn h
theorem twoOf_inv {es : List Expr} {n : Str × Str} (h : twoOf es = some n) : ∃ px py, es = [.Name n.1 px, .Name n.2 py] := by
  match es, h with
  | [], h => exact nn h
  | [_], h => exact nn h
  | [a, b], h =>
    obtain ⟨x, h1, h⟩ := Option.bind_eq_some_iff.mp h
    obtain ⟨y, h2, rfl⟩ := Option.map_eq_some_iff.mp h
    obtain ⟨p, rfl⟩ := nmOf_inv h1
    obtain ⟨q, rfl⟩ := nmOf_inv h2
    exact ⟨p, q, rfl⟩
  | _ :: _ :: _ :: _, h => exact nn h
theorem pairOf_inv {v : PV} {q : PV × PV} (h : pairOf v = some q) : v = .tup [q.1, q.2] := by
  cases v
  case tup ps =>
    match ps, h with
    | [], h => exact nn h
    | [_], h => exact nn h
    | [a, b], h => cases h; rfl
    | _ :: _ :: _ :: _, h => exact nn h
  all_goals exact nn h
theorem bindT_inv {tgt : Expr} {p : PV} {fm fm' : Fm} (h : bindT tgt p fm = some fm') : (∃ x pos, tgt = .Name x pos ∧ fm.set x (.val p) = some fm') ∨
    ∃ x px y py kk pos a b, tgt = .Tuple [.Name x px, .Name y py] kk pos ∧ p = .tup [a, b] ∧ ((fm.set x (.val a)).bind fun fm => fm.set y (.val b)) = some fm' := by
  cases tgt
  case Name x pos => exact .inl ⟨x, pos, rfl, h⟩
  case Tuple es k pos =>
    obtain ⟨n, h1, h⟩ := Option.bind_eq_some_iff.mp h
    obtain ⟨q, h2, h⟩ := Option.bind_eq_some_iff.mp h
    obtain ⟨px, py, rfl⟩ := twoOf_inv h1
    cases pairOf_inv h2
    exact .inr ⟨_, px, _, py, k, pos, _, _, rfl, rfl, h⟩
  all_goals exact nn h
theorem assign_ok {tgt : Expr} {p : PV} {v : Value} {K : Shared → Prop} (X : Inv HG B g₀ env fm ρ s₀ s g) (hh : A.handled = none) (hb : bindT tgt p fm = some fm') (hG : Given s.heap g tgt p v)
    (h : ∀ s' ρ', Inv HG B g₀ env fm' ρ' s₀ s' g → (∀ b, Mut env fm' ρ' b → Mut env fm ρ b) → (∀ y, storable (fm.kind y) = false → ρ' y = ρ y) → K s') :
    wpAny (model prog w) A (assign tgt env v) (fun _ s' => K s') F0 s := by
  rcases bindT_inv hb with ⟨x, pos, rfl, hb⟩ | ⟨x, px, y, py, kk, pos, a, b, rfl, rfl, hb⟩
  · have r : Rep g p v := by
      rcases hG with ⟨_, r⟩ | ⟨t, _⟩
      · exact r
      · cases t
    refine wpAny_assign_Name (X.store hb (Fit.val r) fun s' X' => h s' _ X' (fun b m => mut_store hb m) fun y hy => ?_)
    refine upd_other ρ v ?_
    rintro rfl
    rw [(kinds_set hb).2.1] at hy; cases hy
  · rcases hG with ⟨t, _⟩ | ⟨_, ps, T, vs, e, rfl, hT, hr⟩
    · cases t
    cases e
    simp only [Reps] at hr
    obtain ⟨va, r1, rfl, ra, vb, r2, rfl, rb, rfl⟩ := hr
    obtain ⟨fm₁, h1, h2⟩ := Option.bind_eq_some_iff.mp hb
    refine assign_Tuple_tuple hh hT rfl rfl fun h' he => ?_
    have X₁ : Inv HG B g₀ env fm ρ s₀ { s with heap := h' } g := X.grow (ext_grow X.gs fun b o q => he b o (Nat.ne_of_lt (Heap.lt_size q)) q)
    refine assignInOrder_cons (wpAny_assign_Name (X₁.store h1 (Fit.val ra) fun s₂ X₂ => assignInOrder_cons (wpAny_assign_Name (X₂.store h2 (Fit.val rb) fun s₃ X₃ => assignInOrder_nil ?_))))
    refine h s₃ _ X₃ (fun b m => mut_store h1 (mut_store h2 m)) fun z hz => ?_
    have k1 := (kinds_set h1).2.1
    have k2 := (kinds_set h2).2.1
    have n1 := (kinds_set h1).1
    rw [upd_other, upd_other]
    · rintro rfl; rw [k1] at hz; cases hz
    · rintro rfl; unfold Fm.kind at k2 hz; rw [n1] at k2; rw [k2] at hz; cases hz

/-- only what is nobody's has moved -/
theorem Inv.away {T : Addr → Prop} {h' : Heap} {tk : Tok} (X : Inv HG B g₀ env fm ρ s₀ s g) (hk : Keep T s.heap h') (hT : ∀ b, T b → B b = none ∧ g b = none ∧ ¬ Mut env fm ρ b ∧ ∃ o, s.heap.get? b = some o ∧ ∀ v, o.data ≠ .cell v) :
    Inv HG B g₀ env fm ρ s₀ { s with heap := h', toks := tk } g := by
  have nB : ∀ b o, B b = some o → ¬ T b := fun b o q t => by rw [(hT b t).1] at q; cases q
  have ng : ∀ b o, g b = some o → ¬ T b := fun b o q t => by rw [(hT b t).2.1] at q; cases q
  have nL : ¬ T env.locals := fun t => (hT _ t).2.2.1 (.inl rfl)
  have nC : ∀ x, fm.kind x = some .cell → ∀ c, env.cells.lookup x = some c → ¬ T c := fun x k c e t => (hT _ t).2.2.1 (.inr (.inl ⟨x, k, e⟩))
  refine ⟨fun b o q => hk b o (nB b o (X.hgB b o q)) (X.hg b o q), fun b o q => hk b o (ng b o q) (X.gs b o q), X.kind, X.glob, X.blt, X.names, ?_, X.same, fun b o q => hk b o (nB b o q) (X.bs b o q), X.hgB, X.le, X.new, ?_, ?_, X.cinj, X.own, X.apart⟩
  · intro x e hx
    refine ⟨?_, (X.var x e hx).2.keep hk (.refl _) fun b o t => (hT b t).2.2.1 (.inr (.inr ⟨x, e, hx, o⟩))⟩
    refine (X.var x e hx).1.keep hk (fun _ => nL) fun c v _ hc t => ?_
    obtain ⟨o, e1, e2⟩ := (hT c t).2.2.2
    obtain ⟨o', e3, e4⟩ := hc
    rw [e1] at e3; cases e3
    exact e2 v e4
  · obtain ⟨m, o, es, ep, e, r⟩ := X.ns
    exact ⟨m, o, es, ep, hk _ _ nL e, r⟩
  · intro x k
    obtain ⟨c, v, e, o, ho, d⟩ := X.cell x k
    refine ⟨c, v, e, o, hk _ _ (fun t => ?_) ho, d⟩
    obtain ⟨o', e1, e2⟩ := (hT c t).2.2.2
    rw [ho] at e1; cases e1
    exact e2 v d

theorem Given.mono {h : Heap} {g g' : Fz} {tgt : Expr} {p : PV} {v : Value} (l : Le g g') (x : Given h g tgt p v) : Given h g' tgt p v := by
  rcases x with ⟨t, r⟩ | ⟨t, ps, T, vs, e1, e2, e3, e4⟩
  · exact .inl ⟨t, Rep.mono l p r⟩
  · exact .inr ⟨t, ps, T, vs, e1, e2, e3, Reps.mono l ps e4⟩
theorem Src.mono {tgt : Expr} {it : Value} {fp wr : List Addr} {g g' : Fz} {St : Nat → Heap → Prop} {its : List PV} (S : Src prog w A tgt it fp wr g St its) (l : Le g g') : Src prog w A tgt it fp wr g' St its :=
  ⟨S.sub, S.frame, S.alive, fun i p s K e st hs h => S.item i p s K e st (fun b o q => hs b o (l b o q)) fun v h' tk a1 a2 a3 => h v h' tk a1 a2 (a3.mono l), S.done, S.self⟩

/-- the things that a walk stands on are nobody's -/
noncomputable def Off (B g : Fz) (env : Env) (fm : Fm) (ρ : Str → Value) (fp wr : List Addr) : Prop :=
  (∀ b ∈ wr, B b = none ∧ g b = none) ∧ ∀ b ∈ fp, ¬ Mut env fm ρ b

/-- one turn: an item is drawn and bound; then the base is the whole heap but for the frame's own -/
theorem turn_ok {tgt : Expr} {it : Value} {fp wr : List Addr} {St : Nat → Heap → Prop} {its : List PV} {i : Nat} {p : PV} {K : Shared → Prop} (S : Src prog w A tgt it fp wr g St its) (hh : A.handled = none)
    (X : Inv HG B g₀ env fm ρ s₀ s g) (st : St i s.heap) (off : Off B g env fm ρ fp wr) (hp : its[i]? = some p) (hb : bindT tgt p fm = some fm')
    (h : ∀ s₂ s₃ B' ρ', Inv HG B' g env fm' ρ' s₂ s₃ g → (∀ b o, B b = some o → B' b = some o) → Same s s₂ → Sub B' s₂.heap → (∀ h', Sub B' h' → St (i + 1) h') → (∀ b ∈ fp, ∃ o, B' b = some o) →
      (∀ y, storable (fm.kind y) = false → ρ' y = ρ y) → (∀ b, Mut env fm ρ b → B' b = none) → K s₃) :
    wpAny (model prog w) A (pyNext it) (fun r s₁ => match r with | none => False | some v => wpAny (model prog w) A (letOwnedTupleGo tgt it v) (fun _ s₂ => wpAny (model prog w) A (assign tgt env v) (fun _ s₃ => K s₃) F0 s₂) F0 s₁) F0 s := by
  refine S.item i p s _ hp st X.gs fun v h' tk st' kp hg => ?_
  have X' : Inv HG B g₀ env fm ρ s₀ { s with heap := h', toks := tk } g := X.away kp fun b hb => ⟨(off.1 b hb).1, (off.1 b hb).2, off.2 b (S.sub b hb), S.alive i _ st b (S.sub b hb)⟩
  have keepB : ∀ (h'' : Heap), (∀ b o, base env fm ρ h' b = some o → h''.get? b = some o) → St (i + 1) h'' := fun h'' q => S.frame _ _ _ st' fun b hb o e => q b o (by rw [base_some (off.2 b hb)]; exact e)
  refine assign_ok X'.rebase hh hb hg fun s₃ ρ' X₃ hm hy => h _ s₃ _ ρ' X₃ X'.le_base ⟨rfl, rfl, rfl⟩ (fun b o q => ?_) keepB (fun b hb => ?_) hy fun b m => base_none m
  · by_cases m : Mut env fm ρ b
    · rw [base_none m] at q; cases q
    · rw [base_some m] at q; exact q
  · obtain ⟨o, e, _⟩ := S.alive _ _ st' b hb
    exact ⟨o, by rw [base_some (off.2 b hb)]; exact e⟩
end
end Mine
end
section
open PySem PySem.W PyProof.Rows
open Sem (wp)
set_option Elab.async false
set_option maxRecDepth 100000
set_option linter.unusedVariables false
namespace Mine

noncomputable def FlRep (g : Fz) : Fl → Flow → Prop
  | .next, f => f = .next
  | .ret p, f => ∃ v, f = .ret v ∧ Rep g p v
/-- an expression's value -/
noncomputable def EvOk (prog : Program) (w : World) (A : Around) (HG : Heap) (ev : EV) : Prop :=
  ∀ {B g₀ : Fz} {env : Env} {fm : Fm} {ρ : Str → Value} {s₀ s : Shared} {g : Fz} {e : Expr} {p : PV}, Inv HG B g₀ env fm ρ s₀ s g → ev fm e = some p →
    wpG (model prog w) A (eval e env) (fun v s' => ∃ g', Grow s g s' g' ∧ Rep g' p v) s
noncomputable def TvOk (prog : Program) (w : World) (A : Around) (HG : Heap) (tr : TV) : Prop :=
  ∀ {B g₀ : Fz} {env : Env} {fm : Fm} {ρ : Str → Value} {s₀ s : Shared} {g : Fz} {e : Expr} {b : Bool}, Inv HG B g₀ env fm ρ s₀ s g → tr fm e = some b →
    wpG (model prog w) A (isTrue e env (eval e env)) (fun b' s' => b' = b ∧ ∃ g', Grow s g s' g') s
noncomputable def ExOk (prog : Program) (w : World) (A : Around) (HG : Heap) (ex : XV) : Prop :=
  ∀ {B g₀ : Fz} {env : Env} {fm fm' : Fm} {fl : Fl} {ρ : Str → Value} {s₀ s : Shared} {g : Fz} {body : List Stmt}, Inv HG B g₀ env fm ρ s₀ s g → ex fm body = some (fm', fl) →
    wpG (model prog w) A (execs body env) (fun f s' => ∃ ρ' g', Inv HG B g₀ env fm' ρ' s₀ s' g' ∧ FlRep g' fl f) s
/-- what a loop begins with -/
structure Begun (prog : Program) (w : World) (A : Around) (tgt : Expr) (its : List PV) (s : Shared) (g : Fz) (it : Value) (s₂ : Shared) (g' : Fz) (fp wr : List Addr) (St : Nat → Heap → Prop) : Prop where
  grow : Grow s g s₂ g'
  src : Src prog w A tgt it fp wr g' St its
  st : St 0 s₂.heap
  wr : ∀ b ∈ wr, s.heap.get? b = none ∧ g' b = none
  fp : ∀ b ∈ fp, s.heap.get? b = none ∨ ∃ o, g' b = some o
noncomputable def ItOk (prog : Program) (w : World) (A : Around) (HG : Heap) (ev : EV) : Prop :=
  ∀ {B g₀ : Fz} {env : Env} {fm : Fm} {ρ : Str → Value} {s₀ s : Shared} {g : Fz} {tgt e : Expr} {its : List PV}, Inv HG B g₀ env fm ρ s₀ s g → iterP ev tgt fm e = some its →
    wpG (model prog w) A (eval e env) (fun x s₁ => wpAny (model prog w) A (pyIter x) (fun it s₂ => ∃ g' fp wr St, Begun prog w A tgt its s g it s₂ g' fp wr St) F0 s₁) s

section
variable {prog : Program} {w : World} {A : Around} {s : Shared} {HG : Heap} {B g₀ : Fz} {env : Env} {fm fm' : Fm} {ρ : Str → Value} {s₀ : Shared} {g : Fz}

theorem Begun.off {tgt : Expr} {its : List PV} {it : Value} {s₂ : Shared} {g' : Fz} {fp wr : List Addr} {St : Nat → Heap → Prop} (b : Begun prog w A tgt its s g it s₂ g' fp wr St) (X : Inv HG B g₀ env fm ρ s₀ s g) : Off B g' env fm ρ fp wr := by
  refine ⟨fun a ha => ⟨?_, (b.wr a ha).2⟩, fun a ha m => ?_⟩
  · cases q : B a with
    | none => rfl
    | some o => have := X.bs a o q; rw [(b.wr a ha).1] at this; cases this
  · rcases b.fp a ha with h | ⟨o, h⟩
    · obtain ⟨o, e⟩ := X.alive m
      rw [h] at e; cases e
    · have := ((X.grow b.grow).own a m).2
      rw [h] at this; cases this

theorem for_ok {ex : XV} {tgt : Expr} {body : List Stmt} {it : Value} {fp wr : List Addr} {St : Nat → Heap → Prop} {its : List PV} (hh : A.handled = none) (hex : ExOk prog w A HG ex) {fmz : Fm} {fl : Fl} :
    ∀ (rest : List PV) (i : Nat) (fm : Fm) (ρ : Str → Value) (s : Shared) (g : Fz), its.drop i = rest → i ≤ its.length → Src prog w A tgt it fp wr g St its → Inv HG B g₀ env fm ρ s₀ s g → St i s.heap → Off B g env fm ρ fp wr →
      forL ex tgt body rest fm = some (fmz, fl) →
      codeG (model prog w) A (.forLoop tgt it body [] env) (fun f s' => ∃ ρ' g', Inv HG B g₀ env fmz ρ' s₀ s' g' ∧ FlRep g' fl f) s
  | [], i, fm, ρ, s, g, hd, hle, S, X, st, off, hf => by
    have hl : its.length ≤ i := List.drop_eq_nil_iff.mp hd
    simp only [forL, Option.some.injEq, Prod.mk.injEq] at hf
    obtain ⟨rfl, rfl⟩ := hf
    refine C_for ?_
    have hi : i = its.length := by omega
    subst hi
    refine wpAny_mono (S.done s (fun s' => ∃ ρ' g', Inv HG B g₀ env fm ρ' s₀ s' g' ∧ FlRep g' .next .next) st fun h' tk kp => ?_) (fun r s' h => by cases r <;> first | exact h | exact h.elim) fun _ _ x => x
    exact ⟨ρ, g, X.away kp fun b hb => ⟨(off.1 b hb).1, (off.1 b hb).2, off.2 b (S.sub b hb), S.alive _ _ st b (S.sub b hb)⟩, rfl⟩
  | v :: r, i, fm, ρ, s, g, hd, hle, S, X, st, off, hf => by
    have hv : its[i]? = some v := by rw [← List.head?_drop, hd]; rfl
    have hr : its.drop (i + 1) = r := by rw [← List.tail_drop, hd]; rfl
    simp only [forL] at hf
    split at hf
    · cases hf
    · rename_i fm' hb
      refine C_for (wpAny_mono (turn_ok S hh X st off hv hb (K := fun s₃ => wpG (model prog w) A (execs body env) (fun f s₄ => match f with
        | .next | .cont => codeG (model prog w) A (.forLoop tgt it body [] env) (fun f s' => ∃ ρ' g', Inv HG B g₀ env fmz ρ' s₀ s' g' ∧ FlRep g' fl f) s₄
        | .brk => ∃ ρ' g', Inv HG B g₀ env fmz ρ' s₀ s₄ g' ∧ FlRep g' fl .next
        | .ret v => ∃ ρ' g', Inv HG B g₀ env fmz ρ' s₀ s₄ g' ∧ FlRep g' fl (.ret v)) s₃) ?_) (fun r s' h => by cases r <;> first | exact h | exact h.elim) fun _ _ x => x)
      intro s₂ s₃ B' ρ' X₃ hB hs hsub hst hal hy hm
      split at hf
      · cases hf
      · rename_i fm'' p hx
        cases hf
        refine G_mono (hex X₃ hx) fun f s₄ h₄ => ?_
        obtain ⟨ρ'', g'', Y, v', rfl, rv⟩ := h₄
        exact ⟨ρ'', g'', Y.unbase hB X.hgB (X.same.trans hs) X.le X.new, v', rfl, rv⟩
      · rename_i fm'' hx
        refine G_mono (hex X₃ hx) fun f s₄ h₄ => ?_
        obtain ⟨ρ'', g'', Y, hfl⟩ := h₄
        cases hfl
        refine for_ok hh hex r (i + 1) fm'' ρ'' s₄ g'' hr (by have := (List.getElem?_eq_some_iff.mp hv).1; omega) (S.mono Y.le) (Y.unbase hB X.hgB (X.same.trans hs) X.le X.new) (hst _ Y.bs) ?_ hf
        refine ⟨fun b hb => ⟨(off.1 b hb).1, ?_⟩, fun b hb m => ?_⟩
        · obtain ⟨o, e⟩ := hal b (S.sub b hb)
          cases q : g'' b with
          | none => rfl
          | some o' =>
            rcases Y.new b o' q with h | h
            · rw [(off.1 b hb).2] at h; cases h
            · rw [e] at h; cases h
        · obtain ⟨o, e⟩ := hal b hb
          have := (Y.own b m).1
          rw [e] at this; cases this

theorem while_ok {ex : XV} {tr : TV} {test : Expr} {body : List Stmt} (hex : ExOk prog w A HG ex) (htr : TvOk prog w A HG tr) {fmz : Fm} {fl : Fl} :
    ∀ (n : Nat) (fm : Fm) (ρ : Str → Value) (s : Shared) (g : Fz), Inv HG B g₀ env fm ρ s₀ s g → whileL tr ex test body n fm = some (fmz, fl) →
      codeG (model prog w) A (.whileLoop test body [] env) (fun f s' => ∃ ρ' g', Inv HG B g₀ env fmz ρ' s₀ s' g' ∧ FlRep g' fl f) s
  | 0, fm, ρ, s, g, X, hf => by cases hf
  | n + 1, fm, ρ, s, g, X, hf => by
    simp only [whileL] at hf
    split at hf
    · cases hf
    · rename_i ht
      cases hf
      refine C_while (G_mono (htr X ht) fun b s₂ h₂ => ?_)
      obtain ⟨rfl, g', G⟩ := h₂
      exact ⟨ρ, g', X.grow G, rfl⟩
    · rename_i ht
      refine C_while (G_mono (htr X ht) fun b s₂ h₂ => ?_)
      obtain ⟨rfl, g', G⟩ := h₂
      have X₂ := X.grow G
      simp only [if_true]
      split at hf
      · cases hf
      · rename_i fm'' p hx
        cases hf
        refine G_mono (hex X₂ hx) fun f s₄ h₄ => ?_
        obtain ⟨ρ'', g'', Y, v', rfl, rv⟩ := h₄
        exact ⟨ρ'', g'', Y, v', rfl, rv⟩
      · rename_i fm'' hx
        refine G_mono (hex X₂ hx) fun f s₄ h₄ => ?_
        obtain ⟨ρ'', g'', Y, hfl⟩ := h₄
        cases hfl
        exact while_ok hex htr n fm'' ρ'' s₄ g'' Y hf

/-- a comprehension's frame with what it has gathered -/
noncomputable def accF (fm : Fm) (acc : List PV) : Fm := ⟨fm.names, (".acc", .lst acc) :: fm.vars⟩
theorem accF_get {acc : List PV} (y : Str) : (accF fm acc).get y = if y = (".acc" : Str) then some (.lst acc) else fm.get y := rfl
theorem set_acc {x : Str} {e : Ent} {acc : List PV} (hk : fm.kind ".acc" = none) (h : fm.set x e = some fm') : (accF fm acc).set x e = some (accF fm' acc) := by
  obtain ⟨h1, h2, h3⟩ := kinds_set h
  have hx : x ≠ (".acc" : Str) := by rintro rfl; rw [hk] at h2; cases h2
  unfold Fm.set
  rw [show (accF fm acc).kind x = fm.kind x from rfl, if_pos h2]
  unfold accF
  rw [h1, h3]
  simp only [setE, if_neg hx]
theorem bind_acc {tgt : Expr} {p : PV} {acc : List PV} (hk : fm.kind ".acc" = none) (h : bindT tgt p fm = some fm') : bindT tgt p (accF fm acc) = some (accF fm' acc) ∧ fm'.names = fm.names := by
  rcases bindT_inv h with ⟨x, pos, rfl, h⟩ | ⟨x, px, y, py, kk, pos, a, b, rfl, rfl, h⟩
  · exact ⟨set_acc hk h, (kinds_set h).1⟩
  · obtain ⟨fm₁, h1, h2⟩ := Option.bind_eq_some_iff.mp h
    have n1 := (kinds_set h1).1
    refine ⟨Option.bind_eq_some_iff.mpr ⟨_, set_acc hk h1, set_acc (by unfold Fm.kind at hk ⊢; rw [n1]; exact hk) h2⟩, (kinds_set h2).1.trans n1⟩
theorem fresh_less {tgt : Expr} {p : PV} (hf : freshT tgt fm = true) (h : bindT tgt p fm = some fm') {y : Str} {f : Ent} (hy : fm.get y = some f) : fm'.get y = some f := by
  rcases bindT_inv h with ⟨x, pos, rfl, h⟩ | ⟨x, px, z, pz, k, pos, a, b, rfl, rfl, h⟩
  · replace hf : (fm.get x).isNone = true := hf
    obtain ⟨_, _, h3⟩ := kinds_set h
    unfold Fm.get
    rw [h3, look_set]
    by_cases q : y = x
    · subst q; rw [hy] at hf; cases hf
    · rw [if_neg q]; exact hy
  · replace hf : ((fm.get x).isNone && (fm.get z).isNone && x != z) = true := hf
    simp only [Bool.and_eq_true] at hf
    obtain ⟨fm₁, h1, h2⟩ := Option.bind_eq_some_iff.mp h
    obtain ⟨_, _, h3⟩ := kinds_set h1
    obtain ⟨_, _, h4⟩ := kinds_set h2
    unfold Fm.get
    rw [h4, look_set, h3, look_set]
    by_cases q : y = z
    · subst q; rw [hy] at hf; exact absurd hf.1.2 (by simp)
    · rw [if_neg q]
      by_cases q' : y = x
      · subst q'; rw [hy] at hf; exact absurd hf.1.1 (by simp)
      · rw [if_neg q']; exact hy

theorem Off.next {fp wr : List Addr} {B' g' : Fz} {fm'' : Fm} {ρ'' : Str → Value} {s₂ s₄ : Shared} (off : Off B g env fm ρ fp wr) (sub : ∀ b ∈ wr, b ∈ fp) (Y : Inv HG B' g env fm'' ρ'' s₂ s₄ g') (hal : ∀ b ∈ fp, ∃ o, B' b = some o) : Off B g' env fm'' ρ'' fp wr := by
  refine ⟨fun b hb => ⟨(off.1 b hb).1, ?_⟩, fun b hb m => ?_⟩
  · obtain ⟨o, e⟩ := hal b (sub b hb)
    cases q : g' b with
    | none => rfl
    | some o' =>
      rcases Y.new b o' q with h | h
      · rw [(off.1 b hb).2] at h; cases h
      · rw [e] at h; cases h
  · obtain ⟨o, e⟩ := hal b hb
    have := (Y.own b m).1
    rw [e] at this; cases this

/-- the frame of a comprehension that gathers in D -/
structure AccInv (HG : Heap) (B g₀ : Fz) (env : Env) (fm : Fm) (acc : List PV) (D : Addr) (ρ : Str → Value) (s₀ s : Shared) (g : Fz) : Prop where
  inv : Inv HG B g₀ env (accF fm acc) ρ s₀ s g
  at_ : ρ ".acc" = .ref D
  kind : fm.kind ".acc" = none
theorem AccInv.plain {acc : List PV} {D : Addr} (X : AccInv HG B g₀ env fm acc D ρ s₀ s g) (hf : fm.get ".acc" = none) : Inv HG B g₀ env fm ρ s₀ s g :=
  X.inv.less (vars := fm.vars) fun y f h => by
    rw [accF_get]
    by_cases q : y = (".acc" : Str)
    · subst q; unfold Fm.get at hf; rw [hf] at h; cases h
    · rw [if_neg q]; exact h
theorem get_acc_none {tgt : Expr} {p : PV} (hk : fm.kind ".acc" = none) (hf : fm.get ".acc" = none) (h : bindT tgt p fm = some fm') : fm'.get ".acc" = none := by
  rcases bindT_inv h with ⟨x, pos, rfl, h⟩ | ⟨x, px, z, pz, k, pos, a, b, rfl, rfl, h⟩
  · obtain ⟨_, h2, h3⟩ := kinds_set h
    unfold Fm.get
    rw [h3, look_set, if_neg (by rintro rfl; rw [hk] at h2; cases h2)]
    exact hf
  · obtain ⟨fm₁, h1, h2⟩ := Option.bind_eq_some_iff.mp h
    obtain ⟨n1, k1, h3⟩ := kinds_set h1
    obtain ⟨_, k2, h4⟩ := kinds_set h2
    unfold Fm.get
    rw [h4, look_set, h3, look_set, if_neg (by rintro rfl; unfold Fm.kind at k2 hk; rw [n1, hk] at k2; cases k2), if_neg (by rintro rfl; rw [hk] at k1; cases k1)]
    exact hf

noncomputable def Ends (HG : Heap) (B g₀ : Fz) (env : Env) (fm : Fm) (acc : List PV) (D : Addr) (wr : List Addr) (s₀ s' : Shared) : Prop := ∃ ρ' g', AccInv HG B g₀ env fm acc D ρ' s₀ s' g' ∧ ∀ b ∈ wr, g' b = none
theorem comp_ok {ev : EV} {elt : Expr} {gens : List Comprehension} {scope : Scope} {pos : Pos} {D : Addr} (hh : A.handled = none) (hev : EvOk prog w A HG ev) (hit : ItOk prog w A HG ev) :
    ∀ (rest : List Comprehension) (d : Nat) (tgt iter : Expr) (ifs : List Expr) (as : Int) {B g₀ : Fz} {it : Value} {fp wr : List Addr} {St : Nat → Heap → Prop} {its : List PV} (left : List PV) (i : Nat) (fm : Fm) (acc ps : List PV) (ρ : Str → Value) (s₀ s : Shared) (g : Fz),
      gens.drop d = ⟨tgt, iter, ifs, as⟩ :: rest → its.drop i = left → i ≤ its.length → Src prog w A tgt it fp wr g St its → AccInv HG B g₀ env fm acc D ρ s₀ s g → fm.get ".acc" = none → St i s.heap → Off B g env (accF fm acc) ρ fp wr →
      compL ev elt (⟨tgt, iter, ifs, as⟩ :: rest) fm left = some ps → (acc ++ ps).length ≤ sizeLine →
      codeG (model prog w) A (.compLoop (.ListComp elt gens scope pos) d it (.ref D) env) (fun _ s' => Ends HG B g₀ env fm (acc ++ ps) D wr s₀ s') s := by
  intro rest
  induction rest with
  | nil =>
    intro d tgt iter ifs as B g₀ it fp wr St its left
    induction left with
    | nil =>
      intro i fm acc ps ρ s₀ s g hgens hd hle S X ha st off hc hsz
      have hg : gens[d]? = some ⟨tgt, iter, ifs, as⟩ := by rw [← List.head?_drop, hgens]; rfl
      simp only [compL] at hc
      split at hc
      · rename_i hcond
        obtain ⟨h1, h2, h3⟩ := hcond
        rw [List.isEmpty_iff] at h1
        subst h1 h2
        simp only [mapO, Option.some.injEq] at hc
        subst hc
        have hl : its.length ≤ i := List.drop_eq_nil_iff.mp hd
        have hi : i = its.length := by omega
        subst hi
        refine C_loop hg (wpAny_mono (S.done s (fun s' => Ends HG B g₀ env fm (acc ++ []) D wr s₀ s') st fun h' tk kp => ?_) (fun r s' h => by cases r <;> first | exact h | exact h.elim) fun _ _ x => x)
        rw [List.append_nil]
        exact ⟨ρ, g, ⟨X.inv.away kp fun b hb => ⟨(off.1 b hb).1, (off.1 b hb).2, off.2 b (S.sub b hb), S.alive _ _ st b (S.sub b hb)⟩, X.at_, X.kind⟩, fun b hb => (off.1 b hb).2⟩
      · cases hc
    | cons v r ihl =>
      intro i fm acc ps ρ s₀ s g hgens hd hle S X ha st off hc hsz
      have hg : gens[d]? = some ⟨tgt, iter, ifs, as⟩ := by rw [← List.head?_drop, hgens]; rfl
      have hg1 : gens[d + 1]? = none := by
        have : gens.drop (d + 1) = [] := by rw [← List.tail_drop, hgens]; rfl
        rw [← List.head?_drop, this]; rfl
      have hv : its[i]? = some v := by rw [← List.head?_drop, hd]; rfl
      have hr : its.drop (i + 1) = r := by rw [← List.tail_drop, hd]; rfl
      have hlt : i + 1 ≤ its.length := by have := (List.getElem?_eq_some_iff.mp hv).1; omega
      have hc0 := hc
      simp only [compL] at hc
      split at hc
      · rename_i hcond
        obtain ⟨h1, h2, h3⟩ := hcond
        rw [List.isEmpty_iff] at h1
        subst h1 h2
        simp only [mapO] at hc
        split at hc
        · cases hc
        · rename_i q hq
          split at hc
          · cases hc
          · rename_i qs hqs
            cases hc
            obtain ⟨fm', hb, hel⟩ := Option.bind_eq_some_iff.mp hq
            obtain ⟨hb', hn⟩ := bind_acc (acc := acc) X.kind hb
            refine C_loop hg (wpAny_mono (turn_ok S hh X.inv st off hv hb' (K := fun s₃ => wpG (model prog w) A (eval elt env) (fun x s₄ => wpAny (model prog w) A (call (.builtin "list.append") [.ref D, x]) (fun _ s₅ =>
              codeG (model prog w) A (.compLoop (.ListComp elt gens scope pos) d it (.ref D) env) (fun _ s' => Ends HG B g₀ env fm (acc ++ q :: qs) D wr s₀ s') s₅) F0 s₄) s₃) ?_)
              (fun r s' h => by
                cases r with
                | none => exact h.elim
                | some v => simp only [hg1]; exact h) fun _ _ x => x)
            intro s₂ s₃ B' ρ' X₃ hB hs hsub hst hal hy hm
            have at3 : ρ' ".acc" = .ref D := (hy _ (by rw [show (accF fm acc).kind ".acc" = fm.kind ".acc" from rfl, X.kind]; rfl)).trans X.at_
            have Z : AccInv HG B' g env fm' acc D ρ' s₂ s₃ g := ⟨X₃, at3, by unfold Fm.kind; rw [hn]; exact X.kind⟩
            refine G_mono (hev (Z.plain (get_acc_none X.kind ha hb)) hel) fun x s₄ h₄ => ?_
            obtain ⟨g₄, G, rx⟩ := h₄
            have X₄ := X₃.grow G
            have V := X₄.var ".acc" (.lst acc) (by rw [accF_get, if_pos rfl])
            obtain ⟨a, vs, ea, hl, rs⟩ := V.2
            rw [at3] at ea; cases ea
            have hlen : vs.toArray.size ≤ sizeLine := by
              rw [List.size_toArray, rs.len]
              rw [List.length_append, List.length_cons] at hsz; omega
            refine wpAny_list_append_plain hl (fun h' hl' hs' => ?_) hlen
            have own : ∀ ps b, OwnAt (.lst ps) (ρ' ".acc") b ↔ b = D := fun ps b => by
              rw [at3]
              exact ⟨fun e => by cases e; rfl, fun e => by rw [e]; rfl⟩
            have X₅ := X₄.touch (tk := s₄.toks) (e' := .lst (acc ++ [q])) (h' := h') (x := ".acc") (by rw [accF_get, if_pos rfl]) (own _) (own _) hs' ⟨D, vs ++ [x], at3, by simpa using hl', Reps.app rs (Reps.one rx)⟩
            have X₆ : Inv HG B' g env (accF fm (acc ++ [q])) ρ' s₂ { s₄ with heap := h' } g₄ := by
              have e : (⟨(accF fm' acc).names, setE (accF fm' acc).vars ".acc" (.lst (acc ++ [q]))⟩ : Fm) = accF fm' (acc ++ [q]) := by
                unfold accF; simp [setE]
              rw [e] at X₅
              have := X₅.less (vars := (accF fm (acc ++ [q])).vars) fun y f h => by
                have h' : (accF fm (acc ++ [q])).get y = some f := h
                rw [accF_get] at h' ⊢
                by_cases ky : y = (".acc" : Str)
                · rw [if_pos ky] at h' ⊢; exact h'
                · rw [if_neg ky] at h' ⊢; exact fresh_less h3 hb h'
              unfold accF at this ⊢
              rw [← hn]; exact this
            have fin := ihl (i + 1) fm (acc ++ [q]) qs ρ' s₀ { s₄ with heap := h' } g₄ hgens hr hlt (S.mono G.le) ⟨X₆.unbase hB X.inv.hgB (X.inv.same.trans hs) X.inv.le X.inv.new, at3, X.kind⟩ ha (hst _ X₆.bs)
              (off.next S.sub X₆ hal) (by simp only [compL]; rw [if_pos ⟨rfl, trivial, h3⟩]; exact hqs) (by simpa using hsz)
            simpa using fin
      · cases hc
  | cons g2 rest ih =>
    intro d tgt iter ifs as B g₀ it fp wr St its left
    obtain ⟨t₂, i₂, f₂, a₂⟩ := g2
    induction left with
    | nil =>
      intro i fm acc ps ρ s₀ s g hgens hd hle S X ha st off hc hsz
      have hg : gens[d]? = some ⟨tgt, iter, ifs, as⟩ := by rw [← List.head?_drop, hgens]; rfl
      simp only [compL] at hc
      split at hc
      · rename_i hcond
        obtain ⟨h1, h2, h3⟩ := hcond
        rw [List.isEmpty_iff] at h1
        subst h1 h2
        split at hc
        · simp only [mapO, Option.map_some, List.flatten_nil, Option.some.injEq] at hc
          subst hc
          have hl : its.length ≤ i := List.drop_eq_nil_iff.mp hd
          have hi : i = its.length := by omega
          subst hi
          refine C_loop hg (wpAny_mono (S.done s (fun s' => Ends HG B g₀ env fm (acc ++ []) D wr s₀ s') st fun h' tk kp => ?_) (fun r s' h => by cases r <;> first | exact h | exact h.elim) fun _ _ x => x)
          rw [List.append_nil]
          exact ⟨ρ, g, ⟨X.inv.away kp fun b hb => ⟨(off.1 b hb).1, (off.1 b hb).2, off.2 b (S.sub b hb), S.alive _ _ st b (S.sub b hb)⟩, X.at_, X.kind⟩, fun b hb => (off.1 b hb).2⟩
        · cases hc
      · cases hc
    | cons v r ihl =>
      intro i fm acc ps ρ s₀ s g hgens hd hle S X ha st off hc hsz
      have hg : gens[d]? = some ⟨tgt, iter, ifs, as⟩ := by rw [← List.head?_drop, hgens]; rfl
      have hgens1 : gens.drop (d + 1) = ⟨t₂, i₂, f₂, a₂⟩ :: rest := by rw [← List.tail_drop, hgens]; rfl
      have hg1 : gens[d + 1]? = some ⟨t₂, i₂, f₂, a₂⟩ := by rw [← List.head?_drop, hgens1]; rfl
      have hv : its[i]? = some v := by rw [← List.head?_drop, hd]; rfl
      have hr : its.drop (i + 1) = r := by rw [← List.tail_drop, hd]; rfl
      have hlt : i + 1 ≤ its.length := by have := (List.getElem?_eq_some_iff.mp hv).1; omega
      simp only [compL] at hc
      split at hc
      · rename_i hcond
        obtain ⟨h1, h2, h3⟩ := hcond
        rw [List.isEmpty_iff] at h1
        subst h1 h2
        split at hc
        · rename_i ha2
          obtain ⟨ha2, hns⟩ := ha2
          simp only [mapO] at hc
          obtain ⟨pss, hpss, rfl⟩ := Option.map_eq_some_iff.mp hc
          split at hpss
          · cases hpss
          · rename_i q hq
            split at hpss
            · cases hpss
            · rename_i qs hqs
              cases hpss
              obtain ⟨fm', hb, hel⟩ := Option.bind_eq_some_iff.mp hq
              obtain ⟨its', hi2, hel⟩ := Option.bind_eq_some_iff.mp hel
              obtain ⟨hb', hn⟩ := bind_acc (acc := acc) X.kind hb
              have hsz' : (acc ++ q).length ≤ sizeLine := by
                simp only [List.length_append, List.flatten_cons] at hsz ⊢; omega
              refine C_loop hg (wpAny_mono (turn_ok S hh X.inv st off hv hb' (K := fun s₃ => wpG (model prog w) A (eval i₂ env) (fun x s₄ => wpAny (model prog w) A (pyIter x) (fun it' s₅ =>
                codeG (model prog w) A (.compStart (.ListComp elt gens scope pos) (d + 1) it' (.ref D) env) (fun _ s₆ =>
                  codeG (model prog w) A (.compLoop (.ListComp elt gens scope pos) d it (.ref D) env) (fun _ s' => Ends HG B g₀ env fm (acc ++ (q :: qs).flatten) D wr s₀ s') s₆) s₅) F0 s₄) s₃) ?_)
                (fun r s' h => by
                  cases r with
                  | none => exact h.elim
                  | some v => simp only [hg1]; exact wpAny_mono h (fun _ _ h => wpAny_mono h (fun _ _ h => ⟨ha2, hns, h⟩) fun _ _ x => x) fun _ _ x => x) fun _ _ x => x)
              intro s₂ s₃ B' ρ' X₃ hB hs hsub hst hal hy hm
              have at3 : ρ' ".acc" = .ref D := (hy _ (by rw [show (accF fm acc).kind ".acc" = fm.kind ".acc" from rfl, X.kind]; rfl)).trans X.at_
              have kd' : fm'.kind ".acc" = none := by unfold Fm.kind; rw [hn]; exact X.kind
              have Z : AccInv HG B' g env fm' acc D ρ' s₂ s₃ g := ⟨X₃, at3, kd'⟩
              have ga' := get_acc_none X.kind ha hb
              refine G_mono (hit (Z.plain ga') hi2) fun x s₄ h₄ => wpAny_mono h₄ (fun it' s₅ h₅ => ?_) fun _ _ x => x
              obtain ⟨g₅, fp', wr', St', G⟩ := h₅
              have f2 : f₂ = [] ∧ a₂ = 0 := by
                unfold compL at hel
                split at hel
                · rename_i k; rw [List.isEmpty_iff] at k; exact ⟨k.1, k.2.1⟩
                · cases hel
              have X₅ := X₃.grow G.grow
              have hg1' := hg1
              rw [f2.1, f2.2] at hg1'
              have inner := C_mono (ih (d + 1) t₂ i₂ f₂ a₂ its' 0 fm' acc q ρ' s₂ s₅ g₅ hgens1 rfl (Nat.zero_le _) G.src ⟨X₅, at3, kd'⟩ ga' G.st (G.off X₃) hel hsz')
                (R' := fun _ s₆ => codeG (model prog w) A (.compLoop (.ListComp elt gens scope pos) d it (.ref D) env) (fun _ s' => Ends HG B g₀ env fm (acc ++ (q :: qs).flatten) D wr s₀ s') s₆) (fun f s₆ h₆ => by
                  obtain ⟨ρ'', g₆, Y, _⟩ := h₆
                  have X₆ : Inv HG B' g env (accF fm (acc ++ q)) ρ'' s₂ s₆ g₆ := by
                    have := Y.inv.less (vars := (accF fm (acc ++ q)).vars) fun y f h => by
                      have h' : (accF fm (acc ++ q)).get y = some f := h
                      rw [accF_get] at h' ⊢
                      by_cases ky : y = (".acc" : Str)
                      · rw [if_pos ky] at h' ⊢; exact h'
                      · rw [if_neg ky] at h' ⊢; exact fresh_less h3 hb h'
                    unfold accF at this ⊢
                    rw [← hn]; exact this
                  have fin := ihl (i + 1) fm (acc ++ q) qs.flatten ρ'' s₀ s₆ g₆ hgens hr hlt (S.mono X₆.le) ⟨X₆.unbase hB X.inv.hgB (X.inv.same.trans hs) X.inv.le X.inv.new, Y.at_, X.kind⟩ ha (hst _ X₆.bs)
                    (off.next S.sub X₆ hal) (by simp only [compL]; rw [if_pos ⟨rfl, trivial, h3⟩, if_pos ⟨ha2, hns⟩, hqs]; rfl) (by simpa using hsz)
                  simpa using fin)
              exact C_start hg1' inner (G.src.self 0 s₅ _ G.st inner)
        · cases hc
      · cases hc
end
end Mine
end
section
open PySem PySem.W PyProof.Rows
open Sem (wp)
set_option Elab.async false
set_option maxRecDepth 100000
set_option linter.unusedVariables false
namespace Mine

theorem closure_go {env : Env} (f : Str × NameKind → List (Str × Addr) → Sem (ForInStep (List (Str × Addr))))
    (hf : ∀ name kind cs, f (name, kind) cs = if kind == .free then (do let a ← cellOf env name; pure (.yield ((name, a) :: cs))) else pure (.yield cs)) :
    ∀ (names : List (Str × NameKind)) (acc : List (Str × Addr)), (∀ x, (x, .free) ∈ names → ∃ c, env.cells.lookup x = some c) →
      ∃ cl, forIn names acc f = pure cl ∧ (∀ x, (x, .free) ∈ names → cl.lookup x = env.cells.lookup x) ∧ (∀ x c, cl.lookup x = some c → acc.lookup x = some c ∨ ((x, .free) ∈ names ∧ env.cells.lookup x = some c)) ∧
        (∀ x, acc.lookup x = env.cells.lookup x → cl.lookup x = env.cells.lookup x)
  | [], acc, h => ⟨acc, by rw [List.forIn_nil], fun x m => (nomatch m), fun x c e => .inl e, fun x e => e⟩
  | (n, k) :: r, acc, h => by
    by_cases hk : (k == NameKind.free) = true
    · have hk' : k = .free := eq_of_beq hk
      subst hk'
      obtain ⟨c, hc⟩ := h n List.mem_cons_self
      obtain ⟨cl, h1, h2, h3, h4⟩ := closure_go f hf r ((n, c) :: acc) fun x m => h x (List.mem_cons_of_mem _ m)
      have hn : ((n, c) :: acc).lookup n = env.cells.lookup n := by rw [List.lookup_cons, beq_self_eq_true]; exact hc.symm
      refine ⟨cl, ?_, fun x m => ?_, fun x d e => ?_, fun x e => ?_⟩
      · rw [List.forIn_cons, hf, if_pos hk]
        unfold cellOf
        rw [hc]
        exact h1
      · rcases List.mem_cons.mp m with e | m
        · cases e; exact h4 n hn
        · exact h2 x m
      · rcases h3 x d e with e | e
        · rw [List.lookup_cons] at e
          split at e
          · rename_i q; have := eq_of_beq q; subst this; cases e; exact .inr ⟨List.mem_cons_self, hc⟩
          · exact .inl e
        · exact .inr ⟨List.mem_cons_of_mem _ e.1, e.2⟩
      · by_cases q : x = n
        · subst q; exact h4 x hn
        · refine h4 x ?_
          rw [List.lookup_cons, beq_eq_false_iff_ne.mpr q]; exact e
    · obtain ⟨cl, h1, h2, h3, h4⟩ := closure_go f hf r acc fun x m => h x (List.mem_cons_of_mem _ m)
      refine ⟨cl, ?_, fun x m => ?_, fun x d e => (h3 x d e).imp id fun e => ⟨List.mem_cons_of_mem _ e.1, e.2⟩, h4⟩
      · rw [List.forIn_cons, hf, if_neg hk]
        exact h1
      · rcases List.mem_cons.mp m with e | m
        · cases e; exact absurd rfl hk
        · exact h2 x m
theorem closure_ok {env : Env} {scope : Scope} (h : ∀ x, (x, .free) ∈ scope.names → ∃ c, env.cells.lookup x = some c) :
    ∃ cl, closureFor scope env = pure cl ∧ (∀ x, (x, .free) ∈ scope.names → cl.lookup x = env.cells.lookup x) ∧ (∀ x c, cl.lookup x = some c → (x, .free) ∈ scope.names ∧ env.cells.lookup x = some c) := by
  obtain ⟨cl, h1, h2, h3, _⟩ := closure_go (env := env) (fun p cs => if p.2 == .free then (do let a ← cellOf env p.1; pure (.yield ((p.1, a) :: cs))) else pure (.yield cs)) (fun _ _ _ => rfl) scope.names [] h
  refine ⟨cl, ?_, h2, fun x c e => (h3 x c e).resolve_left (by simp)⟩
  unfold closureFor
  exact congrArg (· >>= pure) h1

theorem cells_ok : ∀ (names : List (Str × NameKind)) (h : Heap) (acc : List (Str × Addr)), (∀ x c, acc.lookup x = some c → c < h.objs.size) → (∀ x y c, acc.lookup x = some c → acc.lookup y = some c → x = y) →
    (∀ x c, (cellsFrom h.objs.size names acc).lookup x = some c → acc.lookup x = some c ∨ (h.objs.size ≤ c ∧ (pushCells h names).IsCell c none)) ∧
    (∀ x y c, (cellsFrom h.objs.size names acc).lookup x = some c → (cellsFrom h.objs.size names acc).lookup y = some c → x = y) ∧
    (∀ x, (x, .cell) ∈ names → ∃ c, (cellsFrom h.objs.size names acc).lookup x = some c ∧ h.objs.size ≤ c ∧ (pushCells h names).IsCell c none) ∧
    (∀ x, (x, .cell) ∉ names → (cellsFrom h.objs.size names acc).lookup x = acc.lookup x)
  | [], h, acc, lt, inj => ⟨fun x c e => .inl e, inj, fun x m => (nomatch m), fun x _ => rfl⟩
  | (n, k) :: r, h, acc, lt, inj => by
    by_cases hk : (k == NameKind.cell) = true
    · have hk' : k = .cell := eq_of_beq hk
      subst hk'
      have e1 : cellsFrom h.objs.size ((n, .cell) :: r) acc = cellsFrom (h.push { cls := .type "cell", data := .cell none }).objs.size r ((n, h.objs.size) :: acc) := by
        rw [Heap.size_push]; rfl
      have e2 : pushCells h ((n, .cell) :: r) = pushCells (h.push { cls := .type "cell", data := .cell none }) r := rfl
      rw [e1, e2]
      have lk : ∀ x c, ((n, h.objs.size) :: acc).lookup x = some c → (x = n ∧ c = h.objs.size) ∨ (x ≠ n ∧ acc.lookup x = some c) := fun x c e => by
        rw [List.lookup_cons] at e
        split at e
        · rename_i q; cases e; exact .inl ⟨eq_of_beq q, rfl⟩
        · rename_i q; exact .inr ⟨fun z => by subst z; rw [beq_self_eq_true] at q; exact absurd q (by simp), e⟩
      have here : (pushCells (h.push { cls := .type "cell", data := .cell none }) r).IsCell h.objs.size none := ⟨_, pushCells_keeps _ _ _ _ (Heap.get?_push_size _ rfl), rfl⟩
      obtain ⟨a1, a2, a3, a4⟩ := cells_ok r (h.push { cls := .type "cell", data := .cell none }) ((n, h.objs.size) :: acc)
        (fun x c e => by
          rw [Heap.size_push]
          rcases lk x c e with ⟨_, q⟩ | ⟨_, q⟩
          · rw [q]; exact Nat.lt_succ_self _
          · exact Nat.lt_succ_of_lt (lt x c q))
        (fun x y c e e' => by
          rcases lk x c e with ⟨p1, q1⟩ | ⟨p1, q1⟩ <;> rcases lk y c e' with ⟨p2, q2⟩ | ⟨p2, q2⟩
          · exact p1.trans p2.symm
          · rw [q1] at q2; exact absurd (lt _ _ q2) (Nat.lt_irrefl _)
          · rw [q2] at q1; exact absurd (lt _ _ q1) (Nat.lt_irrefl _)
          · exact inj x y c q1 q2)
      rw [Heap.size_push] at a1 a2 a3 a4
      rw [Heap.size_push]
      refine ⟨fun x c e => ?_, a2, fun x m => ?_, fun x m => ?_⟩
      · rcases a1 x c e with e | ⟨b1, b2⟩
        · rcases lk x c e with ⟨rfl, rfl⟩ | ⟨_, e⟩
          · exact .inr ⟨Nat.le_refl _, here⟩
          · exact .inl e
        · exact .inr ⟨Nat.le_of_succ_le b1, b2⟩
      · by_cases m' : (x, NameKind.cell) ∈ r
        · obtain ⟨c, b1, b2, b3⟩ := a3 x m'
          exact ⟨c, b1, Nat.le_of_succ_le b2, b3⟩
        · rcases List.mem_cons.mp m with e | m
          · cases e
            exact ⟨h.objs.size, by rw [a4 _ m', List.lookup_cons, beq_self_eq_true], Nat.le_refl _, here⟩
          · exact absurd m m'
      · have n1 : x ≠ n := by rintro rfl; exact m List.mem_cons_self
        rw [a4 x fun z => m (List.mem_cons_of_mem _ z), List.lookup_cons, beq_eq_false_iff_ne.mpr n1]
    · have e1 : cellsFrom h.objs.size ((n, k) :: r) acc = cellsFrom h.objs.size r acc := by
        show (if (k == .cell) = true then _ else _) = _
        rw [if_neg hk]
      have e2 : pushCells h ((n, k) :: r) = pushCells h r := by
        show (if (k == .cell) = true then _ else _) = _
        rw [if_neg hk]
      rw [e1, e2]
      obtain ⟨a1, a2, a3, a4⟩ := cells_ok r h acc lt inj
      refine ⟨a1, a2, fun x m => ?_, fun x m => a4 x fun z => m (List.mem_cons_of_mem _ z)⟩
      rcases List.mem_cons.mp m with e | m
      · cases e; exact absurd rfl hk
      · exact a3 x m

theorem lookup_map (f : Str → NameKind → NameKind) : ∀ (names : List (Str × NameKind)) (x : Str), (names.map fun p => (p.1, f p.1 p.2)).lookup x = (names.lookup x).map (f x)
  | [], x => rfl
  | (n, k) :: r, x => by
    simp only [List.map_cons, List.lookup_cons]
    split
    · rename_i q; have := eq_of_beq q; subst this; simp
    · simpa using lookup_map f r x
theorem relabel_lookup {scope : Scope} {env : Env} (x : Str) : (relabel scope env).names.lookup x = (scope.names.lookup x).map (fun k => if (k == .free && env.scope.kind == .function && env.kindOf x == some .cell) = true then .cell else k) := by
  have e : (relabel scope env).names = scope.names.map fun p => (p.1, if (p.2 == .free && env.scope.kind == .function && env.kindOf p.1 == some .cell) = true then .cell else p.2) := by
    unfold relabel
    refine List.map_congr_left fun p _ => ?_
    obtain ⟨n, k⟩ := p
    dsimp only
    split <;> rfl
  rw [e]
  exact lookup_map (fun n k => if (k == .free && env.scope.kind == .function && env.kindOf n == some .cell) = true then .cell else k) _ x

theorem scope_ok {fm : Fm} {scope : Scope} (h : scopeOk fm scope = true) : scope.kind = .function ∧ scope.names.lookup (".acc" : Str) = none ∧ (∀ p ∈ scope.names, p.2 = .local → scope.names.lookup p.1 = some .local) ∧
    (∀ p ∈ scope.names, p.2 = .cell → scope.names.lookup p.1 = some .cell) ∧ (∀ p ∈ scope.names, p.2 = .free → fm.kind p.1 = some .cell ∨ fm.kind p.1 = some .free) := by
  simp only [scopeOk, Bool.and_eq_true, List.all_eq_true, Bool.or_eq_true, bne_iff_ne, ne_eq, beq_iff_eq] at h
  obtain ⟨⟨h1, h2⟩, h3⟩ := h
  refine ⟨h1, ?_, fun p m e => ?_, fun p m e => ?_, fun p m e => ?_⟩
  · cases q : scope.names.lookup (".acc" : Str) with
    | none => rfl
    | some k => exact absurd rfl (h2 _ (mem_of_lookup q)).1
  · rcases (h3 p m).1.1 with a | a
    · exact absurd e a
    · exact a
  · rcases (h3 p m).1.2 with a | a
    · exact absurd e a
    · exact a
  · rcases (h3 p m).2 with a | a
    · exact absurd e a
    · exact a

theorem caught_get {names₀ : List (Str × NameKind)} {fm : Fm} {names : List (Str × NameKind)} {x : Str} {e : Ent} (h : lookE (caught names₀ fm names) x = some e) : names₀.lookup x = some .free ∧ fm.get x = some e ∧ ∃ p, e = .val p := by
  induction names with
  | nil => cases h
  | cons a r ih =>
    obtain ⟨n, k⟩ := a
    cases k with
    | free =>
      simp only [caught] at h
      split at h
      · rename_i p h1 h2
        simp only [lookE] at h
        by_cases q : x = n
        · subst q
          rw [if_pos rfl] at h
          cases h
          exact ⟨h1, h2, p, rfl⟩
        · rw [if_neg q] at h
          exact ih h
      · exact ih h
    | «local» => exact ih h
    | cell => exact ih h
    | globalExplicit => exact ih h
    | globalImplicit => exact ih h

section
variable {prog : Program} {w : World} {A : Around} {s : Shared} {HG : Heap} {B B' g₀ : Fz} {env : Env} {fm fm' : Fm} {ρ : Str → Value} {s₀ : Shared} {g : Fz}

noncomputable abbrev compHeap (h : Heap) (names : List (Str × NameKind)) : Heap := pushCells ((h.push { cls := .type "list", data := .seq #[] }).push { cls := .type "dict", data := .dict #[] }) names
theorem frame_ok {scope : Scope} (X : Inv HG B g₀ env fm ρ s₀ s g) (hs : scopeOk fm scope = true) (hB : Sub B' s.heap) (hG : ∀ b o, HG.get? b = some o → B' b = some o) :
    ∃ cl, closureFor scope env = pure cl ∧ ∀ tk, AccInv HG B' g (compEnvM scope cl (s.heap.objs.size + 1) env) (compFm scope fm) [] s.heap.objs.size (fun y => if y = (".acc" : Str) then .ref s.heap.objs.size else ρ y)
      { s with heap := compHeap s.heap scope.names, toks := tk } { s with heap := compHeap s.heap scope.names, toks := tk } g ∧
      ∀ b, Mut (compEnvM scope cl (s.heap.objs.size + 1) env) (accF (compFm scope fm) []) (fun y => if y = (".acc" : Str) then .ref s.heap.objs.size else ρ y) b → s.heap.objs.size ≤ b := by
  obtain ⟨k1, k2, k3, k4, k5⟩ := scope_ok hs
  obtain ⟨cl, hcl, c1, c2⟩ := closure_ok (env := env) (scope := scope) fun x m => by
    obtain ⟨c, v, e, _⟩ := X.cell x (k5 (x, .free) m rfl)
    exact ⟨c, e⟩
  refine ⟨cl, hcl, fun tk => ?_⟩
  have hz : ((s.heap.push { cls := .type "list", data := .seq #[] }).push { cls := .type "dict", data := .dict #[] }).objs.size = s.heap.objs.size + 1 + 1 := by rw [Heap.size_push, Heap.size_push]
  have old : ∀ b o, s.heap.get? b = some o → (compHeap s.heap scope.names).get? b = some o := fun b o e => pushCells_keeps _ _ b o (Heap.get?_push_of_some _ (Heap.get?_push_of_some _ e))
  have cellOld : ∀ x c, cl.lookup x = some c → ∃ v, s.heap.IsCell c v := fun x c e => by
    obtain ⟨m, e'⟩ := c2 x c e
    obtain ⟨c', v, e1, e2⟩ := X.cell x (k5 (x, .free) m rfl)
    rw [e'] at e1; cases e1
    exact ⟨v, e2⟩
  obtain ⟨d1, d2, d3, d4⟩ := cells_ok scope.names ((s.heap.push { cls := .type "list", data := .seq #[] }).push { cls := .type "dict", data := .dict #[] }) cl
    (fun x c e => by rw [hz]; obtain ⟨v, h⟩ := cellOld x c e; exact Nat.lt_succ_of_lt (Nat.lt_succ_of_lt h.lt)) (fun x y c e e' => X.cinj x y c (c2 x c e).2 (c2 y c e').2)
  rw [hz] at d1 d2 d3 d4
  have fresh : ∀ b, s.heap.objs.size ≤ b → B' b = none ∧ g b = none := fun b hb => by
    have n : s.heap.get? b = none := by
      cases e : s.heap.get? b with
      | none => rfl
      | some o => exact absurd (Heap.lt_size e) (Nat.not_lt.mpr hb)
    refine ⟨?_, ?_⟩
    · cases q : B' b with
      | none => rfl
      | some o => have := hB b o q; rw [n] at this; cases this
    · cases q : g b with
      | none => rfl
      | some o => have := X.gs b o q; rw [n] at this; cases this
  have hC : (compHeap s.heap scope.names).Ns (s.heap.objs.size + 1) (fun _ => none) := by
    have := Heap.Ns.new (s.heap.push { cls := .type "list", data := .seq #[] }) (.type "dict")
    rw [Heap.size_push] at this
    exact this.keeps (pushCells_keeps _ _)
  have hD : (compHeap s.heap scope.names).PlainList s.heap.objs.size #[] := ⟨0, pushCells_keeps _ _ _ _ (Heap.get?_push_of_some _ (Heap.get?_push_size _ rfl))⟩
  have notCell : ∀ {x}, scope.names.lookup x = some .free → (x, NameKind.cell) ∉ scope.names := fun h m => by
    have := k4 (_, .cell) m rfl
    rw [h] at this; cases this
  have kd : ∀ x, (accF (compFm scope fm) []).kind x = scope.names.lookup x := fun _ => rfl
  have mutF : ∀ b, Mut (compEnvM scope cl (s.heap.objs.size + 1) env) (accF (compFm scope fm) []) (fun y => if y = (".acc" : Str) then .ref s.heap.objs.size else ρ y) b → s.heap.objs.size ≤ b := by
    rintro b (rfl | ⟨x, hk, hc⟩ | ⟨x, e, hx, o⟩)
    · exact Nat.le_succ _
    · rw [kd] at hk
      obtain ⟨c, e1, e2, _⟩ := d3 x (mem_of_lookup hk)
      have hc' : (cellsFrom (s.heap.objs.size + 1 + 1) scope.names cl).lookup x = some b := hc
      rw [e1] at hc'; cases hc'
      exact Nat.le_of_succ_le (Nat.le_of_succ_le e2)
    · rw [accF_get] at hx
      by_cases q : x = (".acc" : Str)
      · rw [if_pos q] at hx; cases hx
        simp only [if_pos q] at o
        cases o
        exact Nat.le_refl _
      · rw [if_neg q] at hx
        obtain ⟨_, _, p, rfl⟩ := caught_get hx
        exact o.elim
  refine ⟨⟨?_, by simp, k2⟩, mutF⟩
  refine ⟨fun b o q => old b o (hB b o (hG b o q)), fun b o q => old b o (X.gs b o q), k1, X.glob, X.blt, fun x k hk => ?_, fun x e hx => ?_, .refl _, fun b o q => old b o (hB b o q), hG, .refl _, fun b o q => .inl q, ⟨_, hC⟩, fun x hk => ?_, d2, ?_, ?_⟩
  · rw [kd] at hk
    have e : (compEnvM scope cl (s.heap.objs.size + 1) env).kindOf x = (scope.names.lookup x).map (fun k => if (k == .free && env.scope.kind == .function && env.kindOf x == some .cell) = true then .cell else k) := relabel_lookup x
    rw [hk] at e
    cases k with
    | free =>
      have pk := k5 (x, .free) (mem_of_lookup hk) rfl
      have ke : env.kindOf x = some .cell := by
        rcases pk with pk | pk
        · exact X.names x _ pk
        · exact X.names x _ pk
      rw [ke, X.kind] at e
      exact e
    | «local» => exact e
    | cell => exact e
    | globalExplicit => exact e
    | globalImplicit => exact e
  · rw [accF_get] at hx
    by_cases q : x = (".acc" : Str)
    · subst q
      rw [if_pos rfl] at hx; cases hx
      refine ⟨?_, s.heap.objs.size, [], by simp, hD, Reps.nil⟩
      rw [kd, k2]
      trivial
    · rw [if_neg q] at hx
      obtain ⟨h1, h2, p, rfl⟩ := caught_get hx
      have V := X.var x _ h2
      simp only [if_neg q]
      refine ⟨?_, V.2⟩
      rw [kd, h1]
      have pk := k5 (x, .free) (mem_of_lookup h1) rfl
      have hv : ∃ c, env.cells.lookup x = some c ∧ s.heap.IsCell c (some (ρ x)) := by
        rcases pk with pk | pk
        · have := V.1; rw [pk] at this; exact this
        · have := V.1; rw [pk] at this; exact this
      obtain ⟨c, e1, e2⟩ := hv
      refine ⟨c, ?_, e2.keeps old⟩
      show (cellsFrom _ _ _).lookup x = some c
      rw [d4 x (notCell h1), c1 x (mem_of_lookup h1)]
      exact e1
  · rw [kd] at hk
    rcases hk with hk | hk
    · obtain ⟨c, e1, _, e3⟩ := d3 x (mem_of_lookup hk)
      exact ⟨c, none, e1, e3⟩
    · obtain ⟨c, v, e1, e2⟩ := X.cell x (k5 (x, .free) (mem_of_lookup hk) rfl)
      refine ⟨c, v, ?_, e2.keeps old⟩
      show (cellsFrom _ _ _).lookup x = some c
      rw [d4 x (notCell hk), c1 x (mem_of_lookup hk)]
      exact e1
  · exact fun b m => fresh b (mutF b m)
  · intro x y e f b hx hy ox oy
    rw [accF_get] at hx hy
    by_cases q : x = (".acc" : Str) <;> by_cases q' : y = (".acc" : Str)
    · exact q.trans q'.symm
    · rw [if_neg q'] at hy
      obtain ⟨_, _, p, rfl⟩ := caught_get hy
      exact oy.elim
    · rw [if_neg q] at hx
      obtain ⟨_, _, p, rfl⟩ := caught_get hx
      exact ox.elim
    · rw [if_neg q] at hx
      obtain ⟨_, _, p, rfl⟩ := caught_get hx
      exact ox.elim
end
end Mine
end
section
open PySem PySem.W PyProof.Rows
open Sem (wp)
set_option Elab.async false
set_option maxRecDepth 100000
set_option linter.unusedVariables false
namespace Mine

section
variable {prog : Program} {w : World} {A : Around} {s : Shared} {HG : Heap} {B B' g₀ : Fz} {env : Env} {fm fm' : Fm} {ρ : Str → Value} {s₀ : Shared} {g : Fz}

/-- more is frozen, all of it new -/
theorem Inv.more {g' : Fz} (X : Inv HG B g₀ env fm ρ s₀ s g) (l : Le g g') (sb : Sub g' s.heap) (n : ∀ b o, g' b = some o → g b = some o ∨ (B b = none ∧ ¬ Mut env fm ρ b)) : Inv HG B g₀ env fm ρ s₀ s g' where
  hg := X.hg
  gs := sb
  kind := X.kind
  glob := X.glob
  blt := X.blt
  names := X.names
  var := fun x e k => ⟨(X.var x e k).1, (X.var x e k).2.keep (T := fun _ => False) (fun _ _ _ e => e) l fun _ _ => id⟩
  same := X.same
  bs := X.bs
  hgB := X.hgB
  le := X.le.trans l
  new := fun b o e => (n b o e).elim (X.new b o) fun h => .inr h.1
  ns := X.ns
  cell := X.cell
  cinj := X.cinj
  own := fun b m => by
    refine ⟨(X.own b m).1, ?_⟩
    cases q : g' b with
    | none => rfl
    | some o =>
      rcases n b o q with h | h
      · rw [(X.own b m).2] at h; cases h
      · exact absurd m h.2
  apart := X.apart

theorem Same.eq {s s' : Shared} (h : Same s s') : s' = { s with heap := s'.heap, toks := s'.toks } := by
  obtain ⟨a, b, c, d, e⟩ := s
  obtain ⟨a', b', c', d', e'⟩ := s'
  obtain ⟨h1, h2, h3⟩ := h
  simp only at h1 h2 h3
  subst h1 h2 h3
  rfl

/-- what a comprehension has done, seen from its frame's parent -/
structure Done (T : Addr → Prop) (s : Shared) (g : Fz) (ps : List PV) (D C : Addr) (s' : Shared) (g₄ : Fz) : Prop where
  le : Le g g₄
  sub : Sub g₄ s'.heap
  new : ∀ b o, g₄ b = some o → g b = some o ∨ s.heap.get? b = none
  rep : Rep g₄ (.list ps) (.ref D)
  free : g₄ C = none
  same : Same s s'
  keep : Keep T s.heap s'.heap
  ns : ∃ m, s'.heap.Ns C m
  out : s.heap.get? C = none

theorem comp_end {T : Addr → Prop} [DecidablePred T] {s₁ s' : Shared} {g' g₃ : Fz} {fmc : Fm} {cenv : Env} {ρ' : Str → Value} {ps : List PV} {D : Addr} (hs : Sub g s.heap) (sm : Same s s₁) (l : Le g g') (n : ∀ b o, g' b = some o → g b = some o ∨ s.heap.get? b = none)
    (Y : AccInv HG (fun b => if T b then none else s.heap.get? b) g' cenv fmc ps D ρ' s₁ s' g₃) (hC : s.heap.get? cenv.locals = none) (hD : s.heap.get? D = none) (hT : ∀ b, T b → g₃ b = none) :
    ∃ g₄, Done T s g ps D cenv.locals s' g₄ := by
  have nb : ∀ b o, g₃ b = some o → g b = some o ∨ (s.heap.get? b = none ∧ b ≠ cenv.locals) := fun b o e => by
    have ne : b ≠ cenv.locals := by rintro rfl; rw [(Y.inv.own _ (.inl rfl)).2] at e; cases e
    rcases Y.inv.new b o e with h | h
    · rcases n b o h with h | h
      · exact .inl h
      · exact .inr ⟨h, ne⟩
    · by_cases t : T b
      · rw [hT b t] at e; cases e
      · simp only [if_neg t] at h
        exact .inr ⟨h, ne⟩
  have lg : Le g g₃ := l.trans Y.inv.le
  have neC : ∀ b o, g b = some o → b ≠ cenv.locals := fun b o e => by
    rintro rfl
    have := hs _ o e
    rw [hC] at this; cases this
  let g₄ : Fz := fun b => open Classical in if b = cenv.locals then none else grown s.heap g s'.heap b
  have e4 : ∀ b, b ≠ cenv.locals → g₄ b = grown s.heap g s'.heap b := fun b h => if_neg h
  have l3 : Le g₃ g₄ := fun b o e => by
    rcases nb b o e with h | ⟨h1, h2⟩
    · rw [e4 b (neC b o h)]
      unfold grown
      rw [hs b o h]; exact h
    · rw [e4 b h2]
      exact grown_new h1 (Y.inv.gs b o e)
  have V := Y.inv.var ".acc" (.lst ps) (by rw [accF_get, if_pos rfl])
  obtain ⟨a, vs, ea, ⟨k, hl⟩, rs⟩ := V.2
  rw [Y.at_] at ea; cases ea
  have DC : D ≠ cenv.locals := Y.inv.loc_ne_own (y := ".acc") (f := .lst ps) (by rw [accF_get, if_pos rfl]) Y.at_
  refine ⟨g₄, lg.trans l3, fun b o e => ?_, fun b o e => ?_, ?_, if_pos rfl, sm.trans Y.inv.same, fun b o t e => Y.inv.bs b o (by simp only [if_neg t]; exact e), Y.inv.ns, hC⟩
  · by_cases h : b = cenv.locals
    · rw [show g₄ b = none from if_pos h] at e; cases e
    · rw [e4 b h] at e
      unfold grown at e
      cases q : s.heap.get? b with
      | none => rw [q] at e; exact e
      | some o' => rw [q] at e; exact Y.inv.gs b o (lg b o e)
  · by_cases h : b = cenv.locals
    · rw [show g₄ b = none from if_pos h] at e; cases e
    · rw [e4 b h] at e
      unfold grown at e
      cases q : s.heap.get? b with
      | none => exact .inr rfl
      | some o' => rw [q] at e; exact .inl e
  · simp only [Rep]
    refine ⟨D, vs, rfl, ⟨{ cls := .type "list", data := .seq vs.toArray k }, ?_, rfl, k, rfl⟩, Reps.mono l3 ps rs⟩
    rw [e4 D DC]
    exact grown_new hD hl

theorem Done.grow {s' : Shared} {g₄ : Fz} {ps : List PV} {D C : Addr} {h' : Heap} (d : Done (fun _ => False) s g ps D C s' g₄) (hs : Heap.SameBut C s'.heap h') : Grow s g { s' with heap := h' } g₄ := by
  refine ⟨d.same.trans ⟨rfl, rfl, rfl⟩, fun b o e => ?_, d.le, fun b o e => ?_, d.new⟩
  · exact hs.extBut b o (by rintro rfl; rw [d.out] at e; cases e) (d.keep b o id e)
  · exact hs.extBut b o (by rintro rfl; rw [d.free] at e; cases e) (d.sub b o e)

/-- the parent's frame lives on -/
theorem Done.inv {T : Addr → Prop} {s' : Shared} {g₄ : Fz} {ps : List PV} {D C : Addr} (d : Done T s g ps D C s' g₄) (X : Inv HG B g₀ env fm ρ s₀ s g) (hT : ∀ b, T b → B b = none ∧ g b = none ∧ ¬ Mut env fm ρ b ∧ ∃ o, s.heap.get? b = some o ∧ ∀ v, o.data ≠ .cell v) :
    Inv HG B g₀ env fm ρ s₀ s' g₄ := by
  have X₁ : Inv HG B g₀ env fm ρ s₀ s' g := by
    rw [d.same.eq]
    exact X.away d.keep hT
  refine X₁.more d.le d.sub fun b o e => (d.new b o e).imp id fun h => ⟨?_, fun m => ?_⟩
  · cases q : B b with
    | none => rfl
    | some o' => have := X.bs b o' q; rw [h] at this; cases this
  · obtain ⟨o', e'⟩ := X.alive m
    rw [h] at e'; cases e'

/-- the run of a comprehension, from its source on -/
theorem comp_run {T : Addr → Prop} [DecidablePred T] {ev : EV} {elt : Expr} {tgt iter : Expr} {ifs : List Expr} {as : Int} {rest : List Comprehension} {scope : Scope} {pos : Pos} {it : Value} {fp wr : List Addr} {St : Nat → Heap → Prop} {its ps : List PV} {s₂ : Shared} {g' : Fz}
    (hh : A.handled = none) (hev : EvOk prog w A HG ev) (hit : ItOk prog w A HG ev) (hs : scopeOk fm scope = true)
    (X₂ : Inv HG B g₀ env fm ρ s₀ s₂ g') (S : Src prog w A tgt it fp wr g' St its) (st : St 0 s₂.heap) (hwr : ∀ b ∈ wr, (T b ∨ s.heap.get? b = none) ∧ g' b = none) (hTwr : ∀ b, T b → b ∈ wr)
    (hHG : ∀ b o, HG.get? b = some o → ¬ T b ∧ s.heap.get? b = some o) (hsub : Sub g s.heap) (hk : Keep T s.heap s₂.heap) (sm : Same s s₂) (l : Le g g') (n : ∀ b o, g' b = some o → g b = some o ∨ s.heap.get? b = none)
    (hc : compL ev elt (⟨tgt, iter, ifs, as⟩ :: rest) (compFm scope fm) its = some ps) (hsz : ps.length ≤ sizeLine) :
    ∃ cl, closureFor scope env = pure cl ∧ ∀ R : Flow → Shared → Prop, (∀ f s' g₄, Done T s g ps s₂.heap.objs.size (s₂.heap.objs.size + 1) s' g₄ → R f s') →
      codeG (model prog w) A (.compStart (.ListComp elt (⟨tgt, iter, ifs, as⟩ :: rest) scope pos) 0 it (.ref s₂.heap.objs.size) (compEnvM scope cl (s₂.heap.objs.size + 1) env)) R { s₂ with heap := compHeap s₂.heap scope.names } := by
  have f2 : ifs = [] ∧ as = 0 := by
    unfold compL at hc
    split at hc
    · rename_i k; rw [List.isEmpty_iff] at k; exact ⟨k.1, k.2.1⟩
    · cases hc
  obtain ⟨cl, hcl, hfr⟩ := frame_ok (B' := fun b => if T b then none else s.heap.get? b) X₂ hs (fun b o q => by
      by_cases t : T b
      · simp only [if_pos t] at q; cases q
      · simp only [if_neg t] at q; exact hk b o t q) (fun b o q => by
      obtain ⟨t, e⟩ := hHG b o q
      simp only [if_neg t]; exact e)
  refine ⟨cl, hcl, fun R hR => ?_⟩
  obtain ⟨Y, hmut⟩ := hfr s₂.toks
  have st' : St 0 (compHeap s₂.heap scope.names) := S.frame _ _ _ st fun b _ o e => pushCells_keeps _ _ b o (Heap.get?_push_of_some _ (Heap.get?_push_of_some _ e))
  have big : ∀ b, s₂.heap.objs.size ≤ b → s.heap.get? b = none := fun b hb => by
    cases e : s.heap.get? b with
    | none => rfl
    | some o =>
      by_cases t : T b
      · obtain ⟨o', e', _⟩ := S.alive _ _ st b (S.sub b (hTwr b t))
        exact absurd (Heap.lt_size e') (Nat.not_lt.mpr hb)
      · exact absurd (Heap.lt_size (hk b o t e)) (Nat.not_lt.mpr hb)
  have off : Off (fun b => if T b then none else s.heap.get? b) g' (compEnvM scope cl (s₂.heap.objs.size + 1) env) (accF (compFm scope fm) []) (fun y => if y = (".acc" : Str) then .ref s₂.heap.objs.size else ρ y) fp wr := by
    refine ⟨fun b hb => ⟨?_, (hwr b hb).2⟩, fun b hb m => ?_⟩
    · by_cases t : T b
      · simp only [if_pos t]
      · simp only [if_neg t]; exact (hwr b hb).1.resolve_left t
    · obtain ⟨o, e, _⟩ := S.alive _ _ st b hb
      exact absurd (Heap.lt_size e) (Nat.not_lt.mpr (hmut b m))
  have noacc : (compFm scope fm).get ".acc" = none := by
    cases q : (compFm scope fm).get ".acc" with
    | none => rfl
    | some e =>
      obtain ⟨h1, _⟩ := caught_get q
      rw [(scope_ok hs).2.1] at h1; cases h1
  have run := comp_ok (env := compEnvM scope cl (s₂.heap.objs.size + 1) env) (pos := pos) (gens := ⟨tgt, iter, ifs, as⟩ :: rest) (scope := scope) (elt := elt) hh hev hit rest 0 tgt iter ifs as its 0 (compFm scope fm) [] ps _ _ _ g' rfl rfl (Nat.zero_le _) S Y noacc st' off hc (by simpa using hsz)
  have run' := C_mono (R' := R) run fun f s' h => by
    obtain ⟨ρ', g₃, Z, hw⟩ := h
    obtain ⟨g₄, d⟩ := comp_end (T := T) (s₁ := { s₂ with heap := compHeap s₂.heap scope.names }) hsub (sm.trans ⟨rfl, rfl, rfl⟩) l n Z (big _ (Nat.le_succ _)) (big _ (Nat.le_refl _)) fun b t => hw b (hTwr b t)
    exact hR f s' g₄ d
  have hg : (⟨tgt, iter, ifs, as⟩ :: rest : List Comprehension)[0]? = some ⟨tgt, iter, [], 0⟩ := by rw [f2.1, f2.2]; rfl
  exact C_start hg run' (S.self 0 _ _ st' run')
end
end Mine
end
section
open PySem PySem.W PyProof.Rows
open Sem (wp)
set_option Elab.async false
set_option maxRecDepth 100000
set_option linter.unusedVariables false
namespace Mine

theorem ff {P : Prop} (h : false = true) : P := nomatch h
theorem isNm_inv {e : Expr} (h : isNm e = true) : ∃ x p, e = .Name x p := by
  cases e
  case Name x p => exact ⟨x, p, rfl⟩
  all_goals exact ff h
theorem isTwo_inv {es : List Expr} (h : isTwo es = true) : ∃ n1 p1 n2 p2, es = [.Name n1 p1, .Name n2 p2] := by
  match es, h with
  | [], h => exact ff h
  | [_], h => exact ff h
  | [a, b], h =>
    obtain ⟨h1, h2⟩ := Bool.and_eq_true_iff.mp h
    obtain ⟨x, p, rfl⟩ := isNm_inv h1
    obtain ⟨y, q, rfl⟩ := isNm_inv h2
    exact ⟨x, p, y, q, rfl⟩
  | _ :: _ :: _ :: _, h => exact ff h
theorem isTupE_inv {e : Expr} (h : isTupE e = true) : ∃ n1 p1 n2 p2 k p, e = .Tuple [.Name n1 p1, .Name n2 p2] k p := by
  cases e
  case Tuple es k p =>
    obtain ⟨n1, p1, n2, p2, rfl⟩ := isTwo_inv h
    exact ⟨n1, p1, n2, p2, k, p, rfl⟩
  all_goals exact ff h

section
variable {prog : Program} {w : World} {A : Around} {s : Shared} {HG : Heap} {B B' g₀ : Fz} {env : Env} {fm fm' : Fm} {ρ : Str → Value} {s₀ : Shared} {g : Fz}

theorem tup_of {T : String} {a : Addr} {vs : List Value} (h : SeqAt T g a vs) {hp : Heap} (sb : Sub g hp) : ∃ o, hp.get? a = some o ∧ o.cls = .type T ∧ ∃ n, o.data = .seq vs.toArray n :=
  let ⟨o, e, r⟩ := h; ⟨o, sb _ _ e, r⟩
/-- an item of a frozen row, for any target -/
theorem given_of {tgt : Expr} {p : PV} {v : Value} {h : Heap} (r : Rep g p v) (sb : Sub g h) (hb : isTupE tgt = true → ∃ ps, p = .tup ps) : Given h g tgt p v := by
  cases q : isTupE tgt with
  | false => exact .inl ⟨q, r⟩
  | true =>
    obtain ⟨ps, rfl⟩ := hb q
    simp only [Rep] at r
    obtain ⟨a, vs, rfl, sq, rs⟩ := r
    exact .inr ⟨q, ps, a, vs, rfl, rfl, tup_of sq sb, rs⟩

/-- an iterator that owns no tuple -/
theorem go_plain {tgt : Expr} {I : Addr} {o : Obj} {v : Value} {K : Shared → Prop} (ho : s.heap.get? I = some o) (hd : ∀ n vs, o.cls = .type n → o.data = .fields vs → (["enumerate", "zip", "dict_itemiterator", "dict_reverseitemiterator", "odict_iterator", "itertools.zip_longest", "itertools.pairwise"].contains n) = false) (h : K s) :
    wpAny (model prog w) A (letOwnedTupleGo tgt (.ref I) v) (fun _ s' => K s') F0 s := by
  unfold letOwnedTupleGo
  have main : wpAny (model prog w) A (match (Value.ref I, v) with
    | (.ref r, .ref a) => do
      let o ← load r
      match o.cls, o.data with
      | .type n, .fields vs =>
        if ["enumerate", "zip", "dict_itemiterator", "dict_reverseitemiterator", "odict_iterator", "itertools.zip_longest", "itertools.pairwise"].contains n && vs[0]? == some (rawInt a) then
          rule "for.unpacks-the-owned-tuple"
          updateField r 0 .none
      | _, _ => pure ()
    | _ => pure ()) (fun _ s' => K s') F0 s := by
    split
    · rename_i r a e
      cases e
      refine wpAny_bind (wpAny_load ho ?_)
      split
      · rename_i n vs h1 h2
        rw [hd n vs h1 h2]
        exact wpAny_pure h
      · exact wpAny_pure h
    · exact wpAny_pure h
  cases tgt <;> first | exact wpAny_pure h | exact main

theorem src_walk {tgt : Expr} {I : Addr} {fp : List Addr} {n : Nat} {P : Nat → Value → Prop} {St : Nat → Heap → Prop} {its : List PV} (W : Walks prog w A I fp [I] n P St) (hn : n = its.length)
    (hP : ∀ i v p, P i v → its[i]? = some p → Rep g p v ∧ (isTupE tgt = true → ∃ ps, p = .tup ps))
    (hI : ∀ i h, St i h → ∃ o, h.get? I = some o ∧ ∀ n vs, o.cls = .type n → o.data = .fields vs → (["enumerate", "zip", "dict_itemiterator", "dict_reverseitemiterator", "odict_iterator", "itertools.zip_longest", "itertools.pairwise"].contains n) = false)
    (al : ∀ i h, St i h → ∀ b ∈ fp, ∃ o, h.get? b = some o ∧ ∀ v, o.data ≠ .cell v) (gI : g I = none) : Src prog w A tgt (.ref I) fp [I] g St its where
  sub := W.sub
  frame := W.frame
  alive := al
  item := fun i p s K e st sb h => by
    refine W.item i s _ _ (by rw [hn]; exact (List.getElem?_eq_some_iff.mp e).1) st fun v h' tk pv st' kp => ?_
    obtain ⟨o, ho, hd⟩ := hI _ _ st'
    obtain ⟨r, ht⟩ := hP i v p pv e
    refine go_plain ho hd (h v h' tk st' kp (given_of r (fun b o q => ?_) ht))
    refine kp b o (fun m => ?_) (sb b o q)
    rw [List.mem_singleton.mp m, gI] at q; cases q
  done := fun s K st h => W.done s _ _ (hn ▸ st) fun h' tk kp => h h' tk kp
  self := fun i s Q st h => W.self i s Q _ st h

theorem alive_seq {T : String} {h : Heap} {a : Addr} {items : Array Value} (x : ∃ o, h.get? a = some o ∧ o.cls = .type T ∧ ∃ n, o.data = .seq items n) : ∃ o, h.get? a = some o ∧ ∀ v, o.data ≠ .cell v := by
  obtain ⟨o, e, _, n, d⟩ := x
  exact ⟨o, e, fun v q => by rw [d] at q; cases q⟩

theorem begun_list {tgt : Expr} {ps : List PV} {v : Value} {s₁ : Shared} (hh : A.handled = none) (G : Grow s g s₁ g₀) (r : Rep g₀ (.list ps) v) (ht : isTupE tgt = true → ∀ p ∈ ps, ∃ qs, p = .tup qs) :
    wpAny (model prog w) A (pyIter v) (fun it s₂ => ∃ g' fp wr St, Begun prog w A tgt ps s g it s₂ g' fp wr St) F0 s₁ := by
  simp only [Rep] at r
  obtain ⟨a, vs, rfl, sq, rs⟩ := r
  have hl : s₁.heap.IsList a vs.toArray := tup_of sq G.sub
  obtain ⟨ob, hob, _⟩ := id hl
  obtain ⟨og, hog, _⟩ := id sq
  have hlt := Heap.lt_size hob
  have gI : g₀ s₁.heap.objs.size = none := by
    cases q : g₀ s₁.heap.objs.size with
    | none => rfl
    | some o => have := G.sub _ _ q; rw [get_size] at this; cases this
  refine wpAny_pyIter_list hl ⟨g₀, [s₁.heap.objs.size, a], [s₁.heap.objs.size], _, ⟨G.trans (ext_grow (tk := s₁.toks) G.sub (Ext.push _ _)), src_walk (Walks.list hh s₁.heap.objs.size a (Nat.ne_of_lt hlt) vs.toArray) (by simpa using rs.len) ?_ ?_ ?_ gI, ?_, ?_, ?_⟩⟩
  · intro i v p pv e
    obtain ⟨v', e', r'⟩ := rs.get e
    have pv' : vs[i]? = some v := by simpa using pv
    rw [e'] at pv'; cases pv'
    exact ⟨r', fun t => ht t p (List.mem_of_getElem? e)⟩
  · rintro i h ⟨⟨o, e, c, d⟩, _⟩
    refine ⟨o, e, fun n vs c' _ => ?_⟩
    rw [c] at c'; cases c'; decide
  · rintro i h ⟨⟨o, e, c, d⟩, hl'⟩ b hb
    rcases List.mem_cons.mp hb with rfl | hb
    · exact ⟨o, e, fun v q => by rw [d] at q; cases q⟩
    · rcases List.mem_cons.mp hb with rfl | hb
      · exact alive_seq hl'
      · cases hb
  · exact ⟨⟨_, Heap.get?_push_size _ rfl, rfl, rfl⟩, hl.push _⟩
  · intro b hb
    rcases List.mem_cons.mp hb with rfl | hb
    · refine ⟨?_, gI⟩
      cases q : s.heap.get? s₁.heap.objs.size with
      | none => rfl
      | some o => have := G.ext _ _ q; rw [get_size] at this; cases this
    · cases hb
  · intro b hb
    rcases List.mem_cons.mp hb with rfl | hb
    · left
      cases q : s.heap.get? s₁.heap.objs.size with
      | none => rfl
      | some o => have := G.ext _ _ q; rw [get_size] at this; cases this
    · rcases List.mem_cons.mp hb with rfl | hb
      · exact .inr ⟨_, hog⟩
      · cases hb
theorem begun_tup {tgt : Expr} {ps : List PV} {v : Value} {s₁ : Shared} (hh : A.handled = none) (G : Grow s g s₁ g₀) (r : Rep g₀ (.tup ps) v) (ht : isTupE tgt = true → ∀ p ∈ ps, ∃ qs, p = .tup qs) :
    wpAny (model prog w) A (pyIter v) (fun it s₂ => ∃ g' fp wr St, Begun prog w A tgt ps s g it s₂ g' fp wr St) F0 s₁ := by
  simp only [Rep] at r
  obtain ⟨a, vs, rfl, sq, rs⟩ := r
  have hl : s₁.heap.IsTuple a vs.toArray := tup_of sq G.sub
  obtain ⟨ob, hob, _⟩ := id hl
  obtain ⟨og, hog, _⟩ := id sq
  have hlt := Heap.lt_size hob
  have gI : g₀ s₁.heap.objs.size = none := by
    cases q : g₀ s₁.heap.objs.size with
    | none => rfl
    | some o => have := G.sub _ _ q; rw [get_size] at this; cases this
  refine wpAny_pyIter_tuple hl ⟨g₀, [s₁.heap.objs.size, a], [s₁.heap.objs.size], _, ⟨G.trans (ext_grow (tk := s₁.toks) G.sub (Ext.push _ _)), src_walk (Walks.tuple hh s₁.heap.objs.size a (Nat.ne_of_lt hlt) vs.toArray) (by simpa using rs.len) ?_ ?_ ?_ gI, ?_, ?_, ?_⟩⟩
  · intro i v p pv e
    obtain ⟨v', e', r'⟩ := rs.get e
    have pv' : vs[i]? = some v := by simpa using pv
    rw [e'] at pv'; cases pv'
    exact ⟨r', fun t => ht t p (List.mem_of_getElem? e)⟩
  · rintro i h ⟨⟨o, e, c, d⟩, _⟩
    refine ⟨o, e, fun n vs c' _ => ?_⟩
    rw [c] at c'; cases c'; decide
  · rintro i h ⟨⟨o, e, c, d⟩, hl'⟩ b hb
    rcases List.mem_cons.mp hb with rfl | hb
    · exact ⟨o, e, fun v q => by rw [d] at q; cases q⟩
    · rcases List.mem_cons.mp hb with rfl | hb
      · exact alive_seq hl'
      · cases hb
  · exact ⟨⟨_, Heap.get?_push_size _ rfl, rfl, rfl⟩, ob, Heap.get?_push_of_some _ hob, by assumption⟩
  · intro b hb
    rcases List.mem_cons.mp hb with rfl | hb
    · refine ⟨?_, gI⟩
      cases q : s.heap.get? s₁.heap.objs.size with
      | none => rfl
      | some o => have := G.ext _ _ q; rw [get_size] at this; cases this
    · cases hb
  · intro b hb
    rcases List.mem_cons.mp hb with rfl | hb
    · left
      cases q : s.heap.get? s₁.heap.objs.size with
      | none => rfl
      | some o => have := G.ext _ _ q; rw [get_size] at this; cases this
    · rcases List.mem_cons.mp hb with rfl | hb
      · exact .inr ⟨_, hog⟩
      · cases hb

theorem small_of {a b c : Int} (ha : smallI a = true) (hb : smallI b = true) (hc : smallI c = true) (h0 : 0 < c) (hn : rangeLen a b c ≤ lim) : Builtin.Range.small a b c = true ∧ Builtin.Range.rangeSize a b c = (rangeLen a b c : Int) := by
  simp only [smallI, Bool.and_eq_true, decide_eq_true_eq] at ha hb hc
  have e : Builtin.Range.rangeSize a b c = (rangeLen a b c : Int) := by
    unfold rangeLen
    rw [Int.toNat_of_nonneg]
    unfold Builtin.Range.rangeSize
    rw [if_pos h0]
    split
    · have : 0 ≤ (b - a - 1) / c := Int.ediv_nonneg (by omega) (by omega)
      omega
    · exact Int.le_refl _
  refine ⟨?_, e⟩
  unfold Builtin.Range.small Builtin.Range.rangeFitsLong
  rw [e]
  simp only [Bool.and_eq_true, decide_eq_true_eq, Bool.or_eq_true, if_pos (show c > 0 from h0)]
  have : (2 : Int) ^ 63 = 9223372036854775808 := by decide
  rw [this]
  have h1 : (rangeLen a b c : Int) ≤ 100000 := Int.ofNat_le.mpr hn
  have h2 : (0 : Int) ≤ (rangeLen a b c : Int) := Int.natCast_nonneg _
  refine ⟨⟨⟨⟨⟨?_, ?_⟩, ?_, ?_⟩, ?_, ?_⟩, ?_, ?_⟩, .inr ⟨?_, ?_⟩⟩ <;> omega
theorem begun_range {tgt : Expr} {a b c : Int} {v : Value} {s₁ : Shared} (hh : A.handled = none) (G : Grow s g s₁ g₀) (r : Rep g₀ (.rng a b c) v) (ha : smallI a = true) (hb : smallI b = true) (h0 : 0 < c) (hc : smallI c = true) (hn : rangeLen a b c ≤ lim)
    (ht : isTupE tgt = true → ∀ p ∈ rangeItems a c (rangeLen a b c), ∃ qs, p = .tup qs) :
    wpAny (model prog w) A (pyIter v) (fun it s₂ => ∃ g' fp wr St, Begun prog w A tgt (rangeItems a c (rangeLen a b c)) s g it s₂ g' fp wr St) F0 s₁ := by
  simp only [Rep] at r
  obtain ⟨rr, t, u, w', rfl, er⟩ := r
  have hr := G.sub _ _ er
  obtain ⟨hs, hsz⟩ := small_of ha hb hc h0 hn
  have gI : g₀ s₁.heap.objs.size = none := by
    cases q : g₀ s₁.heap.objs.size with
    | none => rfl
    | some o => have := G.sub _ _ q; rw [get_size] at this; cases this
  have sI : s.heap.get? s₁.heap.objs.size = none := by
    cases q : s.heap.get? s₁.heap.objs.size with
    | none => rfl
    | some o => have := G.ext _ _ q; rw [get_size] at this; cases this
  refine wpAny_pyIter_range hr hs ⟨g₀, [s₁.heap.objs.size], [s₁.heap.objs.size], _, ⟨G.trans (ext_grow (tk := s₁.toks) G.sub (Ext.push _ _)), src_walk (Walks.range hh s₁.heap.objs.size a c (rangeLen a b c)) (by simp [rangeItems]) ?_ ?_ ?_ gI, ?_, ?_, ?_⟩⟩
  · rintro i v p ⟨t, rfl⟩ e
    have e' : p = .int (a + (i : Int) * c) := by
      unfold rangeItems at e
      rw [List.getElem?_map] at e
      obtain ⟨j, e1, e2⟩ := Option.map_eq_some_iff.mp e
      rw [List.getElem?_range] at e1
      · cases e1; exact e2.symm
      · cases q : (List.range (rangeLen a b c))[i]? with
        | none => rw [q] at e1; cases e1
        | some j => simpa using (List.getElem?_eq_some_iff.mp q).1
    subst e'
    exact ⟨⟨t, rfl⟩, fun t => ht t _ (List.mem_of_getElem? e)⟩
  · intro i h st
    refine ⟨_, st, fun n vs c' _ => ?_⟩
    cases c'; decide
  · intro i h st b hb
    rcases List.mem_cons.mp hb with rfl | hb
    · exact ⟨_, st, fun v q => by cases q⟩
    · cases hb
  · show IsRangeIter _ _ (a + ((0 : Nat) : Int) * c) ((rangeLen a b c : Int) - ((0 : Nat) : Int)) c
    rw [← hsz]
    simpa using Heap.get?_push_size _ rfl
  · intro b hb
    rcases List.mem_cons.mp hb with rfl | hb
    · exact ⟨sI, gI⟩
    · cases hb
  · intro b hb
    rcases List.mem_cons.mp hb with rfl | hb
    · exact .inl sI
    · cases hb

theorem zips_get {xs ys : List PV} {i : Nat} {p : PV} (h : (zips xs ys)[i]? = some p) : ∃ x y, xs[i]? = some x ∧ ys[i]? = some y ∧ p = .tup [x, y] := by
  unfold zips at h
  rw [List.getElem?_map] at h
  obtain ⟨⟨x, y⟩, e, rfl⟩ := Option.map_eq_some_iff.mp h
  rw [List.getElem?_zip_eq_some] at e
  exact ⟨x, y, e.1, e.2, rfl⟩
theorem src_zip {tgt : Expr} {I l1 l2 : Addr} {xs ys : List PV} {vs us : List Value} (hh : A.handled = none) (ht : isTupE tgt = true) (hg : ∀ k, k ≤ 4 → g (I + k) = none) (a1 : SeqAt "list" g l1 vs) (a2 : SeqAt "list" g l2 us) (r1 : Reps g xs vs) (r2 : Reps g ys us) :
    Src prog w A tgt (.ref (I + 4)) [I + 4, I + 2, I + 3, I, I + 1, l1, l2] [I + 4, I + 3, I, I + 1] g
      (fun i h => IsZip h (I + 4) (I + 2) (I + 3) .none ∧ IsPair h (I + 2) (.ref I) (.ref (I + 1)) ∧ (∃ a b, IsPair h (I + 3) a b) ∧ h.IsListIter I l1 i ∧ h.IsListIter (I + 1) l2 i ∧ h.IsList l1 vs.toArray ∧ h.IsList l2 us.toArray) (zips xs ys) := by
  have ne : ∀ {l : Addr} {vs : List Value}, SeqAt "list" g l vs → ∀ k, k ≤ 4 → l ≠ I + k := fun h k hk e => by
    obtain ⟨o, e', _⟩ := h
    rw [e, hg k hk] at e'; cases e'
  have ad : ∀ {a b : Nat}, a ≠ b → (I + a : Nat) ≠ I + b := fun h e => h (Nat.add_left_cancel e)
  have D : ZipApart (I + 4) (I + 2) (I + 3) I (I + 1) l1 l2 :=
    ⟨ad (by decide), ad (by decide), ad (a := 0) (by decide), ad (by decide), ad (by decide), ad (b := 0) (by decide), ad (by decide), ad (b := 0) (by decide), ad (by decide), ad (a := 0) (by decide),
      ne a1 4 (by decide), ne a1 3 (by decide), ne a1 0 (by decide), ne a1 1 (by decide), ne a2 4 (by decide), ne a2 3 (by decide), ne a2 0 (by decide), ne a2 1 (by decide)⟩
  have W := WalksT.zip2 (prog := prog) (w := w) hh (I + 4) (I + 2) (I + 3) I (I + 1) l1 l2 D vs.toArray us.toArray
  have len : min vs.toArray.size us.toArray.size = (zips xs ys).length := by
    simp only [List.size_toArray, r1.len, r2.len, zips, List.length_map, List.length_zip]
  refine ⟨W.sub, W.frame, ?_, ?_, fun s K st h => W.done s _ _ (by rw [len]; exact st) h, fun i s Q st h => W.self i s Q _ st h⟩
  · rintro i h ⟨z, ti, ⟨a, b, to⟩, i1, i2, L1, L2⟩ b hb
    simp only [List.mem_cons, List.not_mem_nil, or_false] at hb
    rcases hb with rfl | rfl | rfl | rfl | rfl | rfl | rfl
    · exact ⟨_, z, fun v q => by cases q⟩
    · exact ⟨_, ti, fun v q => by cases q⟩
    · exact ⟨_, to, fun v q => by cases q⟩
    · obtain ⟨o, e, _, d⟩ := i1; exact ⟨o, e, fun v q => by rw [d] at q; cases q⟩
    · obtain ⟨o, e, _, d⟩ := i2; exact ⟨o, e, fun v q => by rw [d] at q; cases q⟩
    · exact alive_seq L1
    · exact alive_seq L2
  · intro i p s K e st sb h
    obtain ⟨x, y, hx, hy, rfl⟩ := zips_get e
    obtain ⟨vx, ex, rx⟩ := r1.get hx
    obtain ⟨vy, ey, ry⟩ := r2.get hy
    refine W.item i s _ _ (by rw [len]; exact (List.getElem?_eq_some_iff.mp e).1) st fun T vals h' tk pv _ hT md kp => ?_
    obtain ⟨x', y', ex', ey', rfl⟩ := pv
    have q1 : vs[i]? = some x' := by simpa using ex'
    have q2 : us[i]? = some y' := by simpa using ey'
    rw [ex] at q1; cases q1
    rw [ey] at q2; cases q2
    obtain ⟨n1, p1, n2, p2, kk, pp, rfl⟩ := isTupE_inv ht
    · refine W.go _ _ _ i T _ _ _ md fun h'' st'' kp'' => ?_
      have key := h (.ref T) h'' tk st'' (fun b o nb q => kp'' b o nb (kp b o nb q)) (.inr ⟨rfl, [x, y], T, [vx, vy], rfl, rfl, ?_, ?_⟩)
      · exact key
      · obtain ⟨o, e, c, n, d⟩ := hT
        exact ⟨o, kp'' _ _ (W.apart _ _ _ md) e, c, n, d⟩
      · exact Reps.cons rx (Reps.one ry)
end
end Mine
end
section
open PySem PySem.W PyProof.Rows
open Sem (wp)
set_option Elab.async false
set_option maxRecDepth 100000
set_option linter.unusedVariables false
namespace Mine

theorem lim_le {n : Nat} (h : n ≤ lim) : n ≤ sizeLine := by rw [sizeLine_eq]; exact Nat.le_trans h (by decide)
theorem pure_inj {α : Type} {a b : α} (h : (pure a : Sem α) = pure b) : a = b := by
  have e : (Sem.pure a : Sem α) = Sem.pure b := h
  injection e

section
variable {prog : Program} {w : World} {A : Around} {s : Shared} {HG : Heap} {B B' g₀ : Fz} {env : Env} {fm fm' : Fm} {ρ : Str → Value} {s₀ : Shared} {g : Fz}

theorem scope_cl (X : Inv HG B g₀ env fm ρ s₀ s g) {scope : Scope} (hs : scopeOk fm scope = true) : ∃ cl, closureFor scope env = pure cl := by
  obtain ⟨cl, h, _⟩ := closure_ok (env := env) (scope := scope) fun x m => by
    obtain ⟨c, v, e, _⟩ := X.cell x ((scope_ok hs).2.2.2.2 (x, .free) m rfl)
    exact ⟨c, e⟩
  exact ⟨cl, h⟩

/-- a comprehension, up to its result -/
theorem comp_eval {ev : EV} {elt : Expr} {gens : List Comprehension} {scope : Scope} {pos p' : Pos} {ps : List PV} {use : Option (Value → Sem Unit)} {Q : Value → Shared → Prop} (hh : A.handled = none) (hev : EvOk prog w A HG ev) (hit : ItOk prog w A HG ev)
    (X : Inv HG B g₀ env fm ρ s₀ s g) (hc : comp ev fm elt gens scope = some ps)
    (h : ∀ D C s' g₄, Done (fun _ => False) s g ps D C s' g₄ → CPost prog w A use Q (.ref D) C s') :
    wpG (model prog w) A (comprehension (.ListComp elt gens scope pos) scope env p' (newList []) (firstAsync gens) (firstIter gens env) use) Q s := by
  unfold comp at hc
  split at hc
  · cases hc
  · rename_i tgt it ifs as rest
    split at hc
    · rename_i hcond
      obtain ⟨hs, ha, hn⟩ := hcond
      obtain ⟨its, hi, hc⟩ := Option.bind_eq_some_iff.mp hc
      obtain ⟨ps', hl, hc⟩ := Option.bind_eq_some_iff.mp hc
      split at hc
      · rename_i hlim
        cases hc
        obtain ⟨cl, hcl⟩ := scope_cl X hs
        subst ha
        obtain ⟨k1, _, k3, _⟩ := scope_ok hs
        show wpG _ A (comprehension _ scope env p' (newList []) false (eval it env) use) Q s
        refine X_comp rfl hn hcl k1 k3 (G_mono (hit X hi) fun x s₁ h₁ => wpAny_mono h₁ (fun itv s₂ h₂ => ?_) fun _ _ x => x)
        obtain ⟨g', fp, wr, St, b⟩ := h₂
        obtain ⟨cl', hcl', run⟩ := comp_run (T := fun _ => False) (rest := rest) (pos := pos) (s := s) (g := g) hh hev hit hs (X.grow b.grow) b.src b.st (fun a ha => ⟨.inr (b.wr a ha).1, (b.wr a ha).2⟩) (fun a t => t.elim) (fun a o e => ⟨id, X.hg a o e⟩) X.gs (fun a o _ e => b.grow.ext a o e) b.grow.same b.grow.le b.grow.new hl (lim_le hlim)
        have ecl : cl = cl' := pure_inj (hcl.symm.trans hcl')
        subst ecl
        exact run _ fun f s' g₄ d => h _ _ s' g₄ d
      · cases hc
    · cases hc

theorem listcomp_ok {ev : EV} {elt : Expr} {gens : List Comprehension} {scope : Scope} {pos : Pos} {ps : List PV} (hh : A.handled = none) (hev : EvOk prog w A HG ev) (hit : ItOk prog w A HG ev)
    (X : Inv HG B g₀ env fm ρ s₀ s g) (hc : comp ev fm elt gens scope = some ps) : wpG (model prog w) A (eval (.ListComp elt gens scope pos) env) (fun v s' => ∃ g', Grow s g s' g' ∧ Rep g' (.list ps) v) s := by
  rw [eval_ListComp]
  refine comp_eval hh hev hit X hc fun D C s' g₄ d => ?_
  obtain ⟨m, hm⟩ := d.ns
  exact ⟨m, hm, fun h' hs' => ⟨g₄, d.grow hs', d.rep⟩⟩

/-- the result is stored, then the comprehension's frame is let go -/
theorem store_done {T : Addr → Prop} {ps : List PV} {D C : Addr} {s' : Shared} {g₄ : Fz} {x : Str} {px : Pos} {K : Shared → Prop} (d : Done T s g ps D C s' g₄) (X : Inv HG B g₀ env fm ρ s₀ s g) (hT : ∀ b, T b → B b = none ∧ g b = none ∧ ¬ Mut env fm ρ b ∧ ∃ o, s.heap.get? b = some o ∧ ∀ v, o.data ≠ .cell v)
    (hset : fm.set x (.val (.list ps)) = some fm') (h : ∀ ρ' s₃, Inv HG B g₀ env fm' ρ' s₀ s₃ g₄ → K s₃) :
    wpAny (model prog w) A (assign (.Name x px) env (.ref D)) (fun _ s'' => ∃ m, s''.heap.Ns C m ∧ ∀ h', Heap.SameBut C s''.heap h' → K { s'' with heap := h' }) F0 s' := by
  have X' := d.inv X hT
  have nC : ¬ Mut env fm ρ C := fun m => by
    obtain ⟨o, e⟩ := X.alive m
    rw [d.out] at e; cases e
  refine wpAny_assign_Name (X'.rebase.store hset (Fit.val d.rep) fun s'' Y => ?_)
  obtain ⟨m, o, es, ep, e, dd, r⟩ := d.ns
  have eC : s''.heap.get? C = some o := Y.bs C o (by rw [base_some nC]; exact e)
  refine ⟨m, ⟨o, es, ep, eC, dd, r⟩, fun h' hs' => ?_⟩
  have Z := X'.unrebase Y
  have Z' := Z.away (T := fun b => b = C) (h' := h') (tk := s''.toks) (fun b o nb e => hs'.extBut b o nb e) fun b hb => by
    subst hb
    refine ⟨?_, d.free, fun mm => nC (mut_store hset mm), o, eC, fun v q => by rw [dd] at q; cases q⟩
    cases q : B b with
    | none => rfl
    | some o' => have := X.bs b o' q; rw [d.out] at this; cases this
  exact h _ _ Z'

theorem swaps_pure {elt : Expr} {gens : List Comprehension} {scope : Scope} {pos px : Pos} {x : Str} {l : Nat} : ∃ b, swapsWith (.ListComp elt gens scope pos) (some (.Name x px)) l env = pure b := ⟨_, rfl⟩
theorem assigncomp_ok {ev : EV} {elt : Expr} {gens : List Comprehension} {scope : Scope} {pos px sp : Pos} {x : Str} {ps : List PV} (hh : A.handled = none) (hev : EvOk prog w A HG ev) (hit : ItOk prog w A HG ev)
    (X : Inv HG B g₀ env fm ρ s₀ s g) (hc : comp ev fm elt gens scope = some ps) (hset : fm.set x (.val (.list ps)) = some fm') :
    wpG (model prog w) A (exec (.Assign [.Name x px] (.ListComp elt gens scope pos) sp) env) (fun f s' => f = .next ∧ ∃ ρ' g', Inv HG B g₀ env fm' ρ' s₀ s' g') s := by
  obtain ⟨b, hb⟩ := swaps_pure (env := env) (elt := elt) (gens := gens) (scope := scope) (pos := pos) (px := px) (x := x) (l := sp.line)
  cases b with
  | false =>
    refine S_Assign hb (G_mono (listcomp_ok hh hev hit X hc) fun v s₁ h₁ => ?_)
    obtain ⟨g', G, r⟩ := h₁
    exact (X.grow G).store hset (Fit.val r) fun s' X' => ⟨rfl, _, _, X'⟩
  | true =>
    rw [exec_Assign_Name_used _ _ _ _ hb]
    refine G_stand (G_bind ?_)
    rw [arm_evalThenUse_ListComp]
    refine G_bind (G_mono (comp_eval (use := some (assign (.Name x px) env)) (Q := fun _ s' => ∃ ρ' g', Inv HG B g₀ env fm' ρ' s₀ s' g') hh hev hit X hc fun D C s' g₄ d => ?_) fun _ s' h => G_pure (G_pure ⟨rfl, h⟩))
    exact store_done (K := fun s' => ∃ ρ' g', Inv HG B g₀ env fm' ρ' s₀ s' g') d X (fun _ t => t.elim) hset fun ρ' s₃ Z => ⟨ρ', g₄, Z⟩

/-- a zip that the frame owns, used up by a comprehension -/
theorem assignzip_ok {ev : EV} {elt tgt : Expr} {ifs : List Expr} {as : Int} {scope : Scope} {pos px sp pp : Pos} {x p : Str} {xs ys ps : List PV} (hh : A.handled = none) (hev : EvOk prog w A HG ev) (hit : ItOk prog w A HG ev)
    (X : Inv HG B g₀ env fm ρ s₀ s g) (hp : fm.get p = some (.zip xs ys)) (ht : isTupE tgt = true) (hl : loadable (fm.kind p) = true) (hdb : p ≠ ("__debug__" : Str)) (ha : as = 0) (hs : scopeOk ⟨fm.names, delE fm.vars p⟩ scope = true)
    (hc : compL ev elt [⟨tgt, .Name p pp, ifs, as⟩] (compFm scope ⟨fm.names, delE fm.vars p⟩) (zips xs ys) = some ps) (hlim : ps.length ≤ lim) (hset : (⟨fm.names, delE fm.vars p⟩ : Fm).set x (.val (.list ps)) = some fm') :
    wpG (model prog w) A (exec (.Assign [.Name x px] (.ListComp elt [⟨tgt, .Name p pp, ifs, as⟩] scope pos) sp) env) (fun f s' => f = .next ∧ ∃ ρ' g', Inv HG B g₀ env fm' ρ' s₀ s' g') s := by
  subst ha
  obtain ⟨I, l1, l2, vs, us, ez, Z⟩ := (X.var p _ hp).2
  have X₁ : Inv HG B g₀ env ⟨fm.names, delE fm.vars p⟩ ρ s₀ s g := X.less fun y f h => by
    rw [look_del] at h
    by_cases q : y = p
    · rw [if_pos q] at h; cases h
    · rw [if_neg q] at h; exact h
  have own : ∀ k : Nat, k ≤ 4 → OwnAt (.zip xs ys) (ρ p) (I + k) := fun k hk => by
    refine ⟨I, ez, ?_⟩
    have : k = 0 ∨ k = 1 ∨ k = 2 ∨ k = 3 ∨ k = 4 := by omega
    rcases this with rfl | rfl | rfl | rfl | rfl
    · exact .inl rfl
    · exact .inr (.inl rfl)
    · exact .inr (.inr (.inl rfl))
    · exact .inr (.inr (.inr (.inl rfl)))
    · exact .inr (.inr (.inr (.inr rfl)))
  have free : ∀ k : Nat, k ≤ 4 → B (I + k) = none ∧ g (I + k) = none := fun k hk => X.own _ (.inr (.inr ⟨p, _, hp, own k hk⟩))
  have S := src_zip (prog := prog) (w := w) hh ht (fun k hk => (free k hk).2) Z.a1 Z.a2 Z.r1 Z.r2
  have st : (fun i h => IsZip h (I + 4) (I + 2) (I + 3) .none ∧ IsPair h (I + 2) (.ref I) (.ref (I + 1)) ∧ (∃ a b, IsPair h (I + 3) a b) ∧ h.IsListIter I l1 i ∧ h.IsListIter (I + 1) l2 i ∧ h.IsList l1 vs.toArray ∧ h.IsList l2 us.toArray) 0 s.heap :=
    ⟨Z.z, Z.ti, ⟨_, _, Z.to⟩, Z.i1, Z.i2, tup_of Z.a1 X.gs, tup_of Z.a2 X.gs⟩
  have inwr : ∀ b ∈ ([I + 4, I + 3, I, I + 1] : List Addr), ∃ k : Nat, k ≤ 4 ∧ b = I + k := fun b hb => by
    simp only [List.mem_cons, List.not_mem_nil, or_false] at hb
    rcases hb with rfl | rfl | rfl | rfl
    · exact ⟨4, by decide, rfl⟩
    · exact ⟨3, by decide, rfl⟩
    · exact ⟨0, by decide, rfl⟩
    · exact ⟨1, by decide, rfl⟩
  have notMut : ∀ k : Nat, k ≤ 4 → ¬ Mut env ⟨fm.names, delE fm.vars p⟩ ρ (I + k) := fun k hk m => by
    obtain ⟨t, ht2, T⟩ := tag_own (X.var p _ hp).2 (own k hk)
    rcases m with e | ⟨y, hk', hc'⟩ | ⟨y, f, hf, o⟩
    · exact X.loc_ne_own hp (own k hk) e
    · obtain ⟨c, v, e1, e2⟩ := X.cell y (.inl hk')
      rw [hc'] at e1; cases e1
      exact X.cell_ne_own e2 hp (own k hk) rfl
    · have hf' : lookE (delE fm.vars p) y = some f := hf
      rw [look_del] at hf'
      by_cases q : y = p
      · rw [if_pos q] at hf'; cases hf'
      · rw [if_neg q] at hf'
        exact q (X.apart y p f _ _ hf' hp o (own k hk))
  have hT : ∀ b, b ∈ ([I + 4, I + 3, I, I + 1] : List Addr) → B b = none ∧ g b = none ∧ ¬ Mut env ⟨fm.names, delE fm.vars p⟩ ρ b ∧ ∃ o, s.heap.get? b = some o ∧ ∀ v, o.data ≠ .cell v := fun b hb => by
    have al := S.alive 0 _ st b (S.sub b hb)
    obtain ⟨k, hk, rfl⟩ := inwr b hb
    exact ⟨(free k hk).1, (free k hk).2, notMut k hk, al⟩
  obtain ⟨cl, hcl⟩ := scope_cl X₁ hs
  obtain ⟨k1, _, k3, _⟩ := scope_ok hs
  have main : ∀ (use : Option (Value → Sem Unit)) (Q : Value → Shared → Prop) (p' : Pos), (∀ D C s' g₄, Done (· ∈ ([I + 4, I + 3, I, I + 1] : List Addr)) s g ps D C s' g₄ → CPost prog w A use Q (.ref D) C s') →
      wpG (model prog w) A (comprehension (.ListComp elt [⟨tgt, .Name p pp, ifs, 0⟩] scope pos) scope env p' (newList []) false (eval (.Name p pp) env) use) Q s := by
    intro use Q p' h
    refine X_comp rfl rfl hcl k1 k3 (G_of (wpAny_Name (X.load hl hp ?_) (by simpa using hdb)))
    rw [ez]
    refine S.self 0 s _ st ?_
    obtain ⟨cl', hcl', run⟩ := comp_run (T := (· ∈ ([I + 4, I + 3, I, I + 1] : List Addr))) (rest := []) (pos := pos) (s := s) (g := g) hh hev hit hs X₁ S st (fun a ha => ⟨.inl ha, (hT a ha).2.1⟩) (fun a t => t)
      (fun a o e => ⟨fun t => (by have := X.hgB a o e; rw [(hT a t).1] at this; cases this), X.hg a o e⟩) X.gs (fun a o _ e => e) (.refl _) (.refl _) (fun _ _ e => .inl e) hc (lim_le hlim)
    have ecl : cl = cl' := pure_inj (hcl.symm.trans hcl')
    subst ecl
    exact run _ fun f s' g₄ d => h _ _ s' g₄ d
  obtain ⟨b, hb⟩ := swaps_pure (env := env) (elt := elt) (gens := [⟨tgt, .Name p pp, ifs, 0⟩]) (scope := scope) (pos := pos) (px := px) (x := x) (l := sp.line)
  cases b with
  | false =>
    refine S_Assign hb ?_
    rw [eval_ListComp]
    refine main none _ _ fun D C s' g₄ d => ?_
    obtain ⟨m, o, es, ep, e, dd, r⟩ := d.ns
    have X' := d.inv X₁ hT
    refine ⟨m, ⟨o, es, ep, e, dd, r⟩, fun h' hs' => ?_⟩
    have nC : ¬ Mut env ⟨fm.names, delE fm.vars p⟩ ρ C := fun m => by
      obtain ⟨o, e⟩ := X.alive (b := C) (by
        rcases m with e | k | ⟨y, f, hf, o⟩
        · exact .inl e
        · exact .inr (.inl k)
        · have hf' : lookE (delE fm.vars p) y = some f := hf
          rw [look_del] at hf'
          by_cases q : y = p
          · rw [if_pos q] at hf'; cases hf'
          · rw [if_neg q] at hf'; exact .inr (.inr ⟨y, f, hf', o⟩))
      rw [d.out] at e; cases e
    have Z' := X'.away (T := fun b => b = C) (h' := h') (tk := s'.toks) (fun b o nb e => hs'.extBut b o nb e) fun b hb => by
      subst hb
      refine ⟨?_, d.free, nC, o, e, fun v q => by rw [dd] at q; cases q⟩
      cases q : B b with
      | none => rfl
      | some o' => have := X.bs b o' q; rw [d.out] at this; cases this
    exact Z'.store hset (Fit.val d.rep) fun s'' X'' => ⟨rfl, _, _, X''⟩
  | true =>
    rw [exec_Assign_Name_used _ _ _ _ hb]
    refine G_stand (G_bind ?_)
    rw [arm_evalThenUse_ListComp]
    refine G_bind (G_mono (main (some (assign (.Name x px) env)) (fun _ s' => ∃ ρ' g', Inv HG B g₀ env fm' ρ' s₀ s' g') _ fun D C s' g₄ d => ?_) fun _ s' h => G_pure (G_pure ⟨rfl, h⟩))
    exact store_done (K := fun s' => ∃ ρ' g', Inv HG B g₀ env fm' ρ' s₀ s' g') d X₁ hT hset fun ρ' s₃ Z => ⟨ρ', g₄, Z⟩
end
end Mine
end
section
open PySem PySem.W PyProof.Rows
open Sem (wp)
set_option Elab.async false
set_option maxRecDepth 100000
set_option linter.unusedVariables false
namespace Mine

structure AOk (A : Around) (n : Nat) : Prop where
  hh : A.handled = none
  gs : A.guards = some []
  dp : A.depth + n < recursionLimit
  un : A.units + 5 * n + 200 < cLine
theorem AOk.le {A : Around} {n m : Nat} (h : AOk A n) (l : m ≤ n) : AOk A m := ⟨h.hh, h.gs, by have := h.dp; omega, by have := h.un; omega⟩
theorem AOk.deeper {A : Around} {n : Nat} (h : AOk A (n + 1)) (env : Env) : AOk (A.deeper env) n :=
  ⟨h.hh, h.gs, by have := h.dp; show A.depth + 1 + n < _; omega, by have := h.un; show A.units + 3 + 5 * n + 200 < _; omega⟩

section
variable {prog : Program} {w : World} {A : Around} {s : Shared} {g : Fz} {n : Nat}

/-- what an op hands on -/
noncomputable def Gets (s : Shared) (g : Fz) (p : PV) : Value → Shared → Prop := fun v s' => ∃ g', Grow s g s' g' ∧ Rep g' p v
theorem gets_of {s s' : Shared} {g : Fz} {p : PV} {v : Value} (sb : Sub g s.heap) (sm : Same s s') (e : Ext s.heap s'.heap) (r : Rep (grown s.heap g s'.heap) p v) : Gets s g p v s' := ⟨_, grow_of sb sm e, r⟩
theorem gets_int {i : Int} {t tk : Tok} {h' : Heap} (sb : Sub g s.heap) (e : Ext s.heap h' := by exact fun _ _ e => e) : Gets s g (.int i) (.int i t) { s with heap := h', toks := tk } := ⟨g, ext_grow sb e, t, rfl⟩
theorem gets_bool {b : Bool} {tk : Tok} {h' : Heap} (sb : Sub g s.heap) (e : Ext s.heap h' := by exact fun _ _ e => e) : Gets s g (.bool b) (.bool b) { s with heap := h', toks := tk } := ⟨g, ext_grow sb e, rfl⟩
theorem gets_bytes {b : List UInt8} {c : Array UInt8} {t tk : Tok} {h' : Heap} (sb : Sub g s.heap) (hc : c = b.toArray) (e : Ext s.heap h' := by exact fun _ _ e => e) : Gets s g (.bytes b) (.bytes c t) { s with heap := h', toks := tk } := ⟨g, ext_grow sb e, t, by rw [hc]⟩
theorem grown_le {h' : Heap} (sb : Sub g s.heap) : Le g (grown s.heap g h') := fun b o e => by unfold grown; rw [sb b o e]; exact e
/-- a new list -/
theorem gets_list {ps : List PV} {vs : List Value} {h' : Heap} {tk : Tok} {k : Nat} {o : Obj} (sb : Sub g s.heap) (r : Reps g ps vs) (e : Ext s.heap h') (n : h'.get? s.heap.objs.size = some o) (hc : o.cls = .type "list") (hd : o.data = .seq vs.toArray k) :
    Gets s g (.list ps) (.ref s.heap.objs.size) { s with heap := h', toks := tk } :=
  gets_of sb ⟨rfl, rfl, rfl⟩ e (by simp only [Rep]; exact ⟨_, vs, rfl, ⟨o, grown_new (get_size _) n, hc, k, hd⟩, Reps.mono (grown_le sb) _ r⟩)
theorem gets_push {ps : List PV} {vs : List Value} {tk : Tok} {k : Nat} (sb : Sub g s.heap) (r : Reps g ps vs) :
    Gets s g (.list ps) (.ref s.heap.objs.size) { s with heap := s.heap.push { cls := .type "list", data := .seq vs.toArray k }, toks := tk } :=
  gets_list sb r (Ext.push _ _) (Heap.get?_push_size _ rfl) rfl rfl

theorem small_bits {i : Int} (h : smallI i = true) : Builtin.Int.intBits i ≤ 64 := by
  simp only [smallI, Bool.and_eq_true, decide_eq_true_eq] at h
  exact intBits_le_64 (by omega) (by omega)

theorem list_add_ok {a b : Value} {xs ys : List PV} (sb : Sub g s.heap) (ra : Rep g (.list xs) a) (rb : Rep g (.list ys) b) (hz : xs.length + ys.length ≤ sizeLine) :
    wpAny (model prog w) A (binaryOp .Add a b) (Gets s g (.list (xs ++ ys))) F0 s := by
  simp only [Rep] at ra rb
  obtain ⟨l, vs, rfl, sl, rs⟩ := ra
  obtain ⟨m, us, rfl, sm, rt⟩ := rb
  obtain ⟨⟨cls, dd, data, sl1⟩, ho, hc, n, hd⟩ := tup_of sl sb
  obtain ⟨⟨cls2, dd2, data2, sl2⟩, ho2, hc2, n2, hd2⟩ := tup_of sm sb
  simp only at hc hd hc2 hd2
  subst hc hd hc2 hd2
  have e : vs.toArray ++ us.toArray = (vs ++ us).toArray := by simp
  refine concat_meets ⟨_, ho, rfl⟩ ⟨_, ho2, rfl⟩ noFill_list_add seq_list_add PySem.F.slot_list_add PySem.F.entry_list_add (PySem.F.args_list_add_2 _ _) (list_addW l m vs.toArray us.toArray n n2 dd dd2 sl1 sl2 (by simp only [List.size_toArray, rs.len, rt.len]; exact hz)) ⟨ho, ho2, ?_⟩
  rw [e]
  exact gets_push sb (rs.app rt)

theorem Reps.rep {xs : List PV} {vs : List Value} (r : Reps g xs vs) : ∀ k : Nat, Reps g (List.replicate k xs).flatten (List.replicate k vs).flatten
  | 0 => Reps.nil
  | k + 1 => by
    rw [List.replicate_succ, List.replicate_succ, List.flatten_cons, List.flatten_cons]
    exact r.app (Reps.rep r k)
theorem list_mul_ok {a b : Value} {xs : List PV} {x : Int} (sb : Sub g s.heap) (ra : Rep g (.list xs) a) (rb : Rep g (.int x) b) (h0 : 0 ≤ x) (h1 : x ≤ 100) (hz : xs.length ≤ 100) :
    wpAny (model prog w) A (binaryOp .Mult a b) (Gets s g (.list (List.replicate x.toNat xs).flatten)) F0 s := by
  simp only [Rep] at ra rb
  obtain ⟨l, vs, rfl, sl, rs⟩ := ra
  obtain ⟨u, rfl⟩ := rb
  obtain ⟨⟨cls, d, data, sl1⟩, ho, hcl, k, hd⟩ := tup_of sl sb
  simp only at hcl hd
  subst hcl hd
  have hlen := rs.len
  have hsz' : vs.toArray.size * x.toNat ≤ 2 ^ 24 := by
    rw [List.size_toArray, hlen]
    exact Nat.le_trans (Nat.mul_le_mul hz (show x.toNat ≤ 100 by omega)) (by decide)
  refine wpAny_binaryOp_repeat_ref (T := "list") (U := "int") (by decide) ⟨_, ho, rfl⟩ (fun s' => typeIs_int s' x u) noFill_list_mul F.fills_int_mul F.slot_int_rmul repeat_list F.slot_int_index.lookup
    (call_meets F.slot_int_rmul (typeIs_int s x u) F.entry_int_rmul (F.args_int_rmul_2 _ _) (lm_int_rmul_list_any x u l vs.toArray k d sl1)
      ⟨ho, rfl, ⟨_, ho, rfl⟩, call_meets F.slot_list_mul ⟨_, ho, rfl⟩ F.entry_list_mul (F.args_list_mul_2 _ _)
        (lm_list_mul_any l vs.toArray k d sl1 x u (by simp [Builtin.List.listFitsIndex]; omega) (by omega) (by simp [Builtin.List.listTooLong, sizeLine]; omega))
        ⟨ho, ?_⟩⟩)
  exact gets_push sb (by rw [listMul_foldl_if]; simpa using Reps.rep rs x.toNat) 

theorem nn0 {α : Type} {p : α} {P : Prop} (h : none = some p) : P := nomatch h
theorem if_inv {α : Type} {c : Prop} [Decidable c] {x r : α} (h : (if c then some x else none) = some r) : c ∧ x = r := by
  by_cases k : c
  · rw [if_pos k] at h; cases h; exact ⟨k, rfl⟩
  · rw [if_neg k] at h; cases h
theorem rep_int0 {i : Int} {v : Value} (r : Rep g (.int i) v) : ∃ t, v = .int i t := by simpa only [Rep] using r
theorem rep_bytes0 {b : List UInt8} {v : Value} (r : Rep g (.bytes b) v) : ∃ t, v = .bytes b.toArray t := by simpa only [Rep] using r
theorem binop_int {op : Operator} {x y : Int} {r : PV} {va vb : Value} (h : binop op (.int x) (.int y) = some r) (sb : Sub g s.heap) (ra : Rep g (.int x) va) (rb : Rep g (.int y) vb) :
    wpAny (model prog w) A (binaryOp op va vb) (Gets s g r) F0 s := by
  obtain ⟨t, rfl⟩ := rep_int0 ra
  obtain ⟨u, rfl⟩ := rep_int0 rb
  cases op
  case Add => cases h; exact PySem.P.add_int (gets_int sb)
  case Sub => cases h; exact PySem.P.sub_int (gets_int sb)
  case Mult =>
    obtain ⟨hs, rfl⟩ := if_inv (show (if smallI y = true ∨ smallI x = true then some (PV.int (x * y)) else none) = some r from h)
    exact PySem.P.mul_int (gets_int sb) (hs.elim (fun h => IntMulOk.of_right (small_bits h)) fun h => IntMulOk.of_left (small_bits h))
  case FloorDiv =>
    obtain ⟨hs, rfl⟩ := if_inv (show (if y ≠ 0 ∧ smallI y = true then some (PV.int (x.fdiv y)) else none) = some r from h)
    refine PyProof.Rows.floordiv_int hs.1 (gets_int sb) (.inl (PyProof.noPylong_of_log2 ?_))
    have := hs.2
    simp only [smallI, Bool.and_eq_true, decide_eq_true_eq] at this
    by_cases h0 : y.natAbs = 0
    · rw [h0]; decide +kernel
    · have : y.natAbs.log2 < 64 := (Nat.log2_lt h0).mpr (by omega)
      omega
  case Mod =>
    obtain ⟨hs, rfl⟩ := if_inv (show (if y ≠ 0 then some (PV.int (x.fmod y)) else none) = some r from h)
    exact PyProof.Rows.mod_int' hs (gets_int sb)
  case Pow =>
    obtain ⟨hs, rfl⟩ := if_inv (show (if 0 ≤ y ∧ y ≤ 1000 ∧ smallI x = true then some (PV.int (x ^ y.toNat)) else none) = some r from h)
    refine PyProof.Rows.pow_int hs.1 ?_ (gets_int sb)
    have h1 := small_bits hs.2.2
    have h2 : ((Builtin.Int.intBits _ : Nat) : Int) ≤ 64 := Int.ofNat_le.mpr h1
    refine Int.le_trans (Int.mul_le_mul h2 hs.2.1 hs.1 (by decide)) (by decide)
  all_goals exact nn0 h
theorem binop_ok {op : Operator} {a b r : PV} {va vb : Value} (h : binop op a b = some r) (sb : Sub g s.heap) (ra : Rep g a va) (rb : Rep g b vb) :
    wpAny (model prog w) A (binaryOp op va vb) (Gets s g r) F0 s := by
  cases a
  case int x =>
    cases b
    case int y => exact binop_int h sb ra rb
    all_goals (cases op <;> exact nn0 h)
  case list xs =>
    cases op
    case Add =>
      cases b
      case list ys =>
        obtain ⟨hs, rfl⟩ := if_inv (show (if xs.length + ys.length ≤ lim then some (PV.list (xs ++ ys)) else none) = some r from h)
        exact list_add_ok sb ra rb (lim_le hs)
      all_goals exact nn0 h
    case Mult =>
      cases b
      case int n =>
        obtain ⟨hs, rfl⟩ := if_inv (show (if 0 ≤ n ∧ n ≤ 100 ∧ xs.length ≤ 100 then some (PV.list (List.replicate n.toNat xs).flatten) else none) = some r from h)
        exact list_mul_ok sb ra rb hs.1 hs.2.1 hs.2.2
      all_goals exact nn0 h
    all_goals exact nn0 h
  case bytes x =>
    cases op
    case Add =>
      cases b
      case bytes y =>
        obtain ⟨hs, rfl⟩ := if_inv (show (if x.length + y.length ≤ lim then some (PV.bytes (x ++ y)) else none) = some r from h)
        obtain ⟨t, rfl⟩ := rep_bytes0 ra
        obtain ⟨u, rfl⟩ := rep_bytes0 rb
        exact KBy.add_bytes (by have := lim_le hs; rw [sizeLine_eq] at this; simpa using this) fun t' k => gets_bytes sb (by simp)
      all_goals exact nn0 h
    all_goals exact nn0 h
  all_goals (cases op <;> exact nn0 h)
end
end Mine
end
section
open PySem PySem.W PyProof.Rows
open Sem (wp)
set_option Elab.async false
set_option maxRecDepth 100000
set_option linter.unusedVariables false
namespace Mine

section
variable {prog : Program} {w : World} {A : Around} {s : Shared} {g : Fz} {n : Nat}

theorem mapO_cons {α β : Type} {f : α → Option β} {a : α} {r : List α} {bs : List β} (h : mapO f (a :: r) = some bs) : ∃ b t, f a = some b ∧ mapO f r = some t ∧ bs = b :: t := by
  simp only [mapO] at h
  split at h
  · cases h
  · rename_i b hb
    split at h
    · cases h
    · rename_i t ht
      cases h
      exact ⟨b, t, hb, ht, rfl⟩
theorem ints_of : ∀ {ps : List PV} {vs : List Value} {is : List Int}, asInts ps = some is → Reps g ps vs → IntsAre vs is
  | [], vs, is, h, r => by
    simp only [asInts, mapO, Option.some.injEq] at h
    subst h
    simp only [Reps] at r
    subst r
    exact .nil
  | p :: ps, vs, is, h, r => by
    obtain ⟨i, t, hi, ht, rfl⟩ := mapO_cons h
    simp only [Reps] at r
    obtain ⟨v, r', rfl, rv, rr⟩ := r
    cases p with
    | int j =>
      simp only [asInt, Option.some.injEq] at hi
      subst hi
      obtain ⟨t, rfl⟩ := (by simpa only [Rep] using rv : ∃ t, v = _)
      exact .cons _ _ (ints_of ht rr)
    | _ => cases hi
theorem rep_list {ps : List PV} {v : Value} (sb : Sub g s.heap) (r : Rep g (.list ps) v) : ∃ a vs, v = .ref a ∧ s.heap.IsList a vs.toArray ∧ Reps g ps vs := by
  simp only [Rep] at r
  obtain ⟨a, vs, rfl, sq, rs⟩ := r
  exact ⟨a, vs, rfl, tup_of sq sb, rs⟩
theorem rep_int {i : Int} {v : Value} (r : Rep g (.int i) v) : ∃ t, v = .int i t := by simpa only [Rep] using r
theorem rep_bytes {b : List UInt8} {v : Value} (r : Rep g (.bytes b) v) : ∃ t, v = .bytes b.toArray t := by simpa only [Rep] using r

theorem cmp_inv {xs ys : List PV} {f : List Int → List Int → Bool} {c : Bool} (h : (match asInts xs, asInts ys with | some a, some b => some (f a b) | _, _ => none) = some c) : ∃ a b, asInts xs = some a ∧ asInts ys = some b ∧ f a b = c := by
  cases hx : asInts xs with
  | none => rw [hx] at h; exact nn0 h
  | some a =>
    cases hy : asInts ys with
    | none => rw [hx, hy] at h; exact nn0 h
    | some b => rw [hx, hy] at h; cases h; exact ⟨a, b, rfl, rfl, rfl⟩
theorem cmpop_ok {op : CmpOp} {a b : PV} {c : Bool} {va vb : Value} (ok : AOk A n) (h : cmpop op a b = some c) (sb : Sub g s.heap) (ra : Rep g a va) (rb : Rep g b vb) :
    wpAny (model prog w) A (compareOp op va vb) (fun v s' => v = .bool c ∧ s' = s) F0 s := by
  cases a
  case int x =>
    cases b
    case int y =>
      obtain ⟨t, rfl⟩ := rep_int ra
      obtain ⟨u, rfl⟩ := rep_int rb
      cases op
      case Eq => cases h; exact PySem.P.eq_int ⟨rfl, rfl⟩
      case NotEq => cases h; exact PySem.P.ne_int ⟨rfl, rfl⟩
      case Lt => cases h; exact PySem.P.lt_int ⟨rfl, rfl⟩
      case LtE => cases h; exact PySem.P.le_int ⟨rfl, rfl⟩
      case Gt => cases h; exact PySem.P.gt_int ⟨rfl, rfl⟩
      case GtE => cases h; exact PySem.P.ge_int ⟨rfl, rfl⟩
      all_goals exact nn0 h
    all_goals (cases op <;> exact nn0 h)
  case bytes x =>
    cases b
    case bytes y =>
      obtain ⟨t, rfl⟩ := rep_bytes ra
      obtain ⟨u, rfl⟩ := rep_bytes rb
      cases op
      case Eq => cases h; exact eq_bytes ⟨by simp, rfl⟩
      case NotEq => cases h; exact ne_bytes ⟨by simp, rfl⟩
      all_goals exact nn0 h
    all_goals (cases op <;> exact nn0 h)
  case list xs =>
    cases b
    case list ys =>
      cases op
      case Eq =>
        obtain ⟨x, y, hx, hy, rfl⟩ := cmp_inv (f := fun a b => decide (a = b)) h
        obtain ⟨a, vs, rfl, la, rs⟩ := rep_list sb ra
        obtain ⟨b, us, rfl, lb, rt⟩ := rep_list sb rb
        exact eq_intsK la (ints_of hx rs) lb (ints_of hy rt) (by have := ok.un; omega) ⟨rfl, rfl⟩
      case NotEq =>
        obtain ⟨x, y, hx, hy, rfl⟩ := cmp_inv (f := fun a b => !decide (a = b)) h
        obtain ⟨a, vs, rfl, la, rs⟩ := rep_list sb ra
        obtain ⟨b, us, rfl, lb, rt⟩ := rep_list sb rb
        exact ne_intsK la (ints_of hx rs) lb (ints_of hy rt) (by have := ok.un; omega) ⟨rfl, rfl⟩
      all_goals exact nn0 h
    all_goals (cases op <;> exact nn0 h)
  all_goals (cases op <;> exact nn0 h)

theorem clampN_clip (i : Int) (n : Nat) : clampN i n = clipAt n i := by
  have c := clipAt_cast n i
  unfold clampN
  by_cases h : i < 0
  · rw [if_pos h] at c ⊢; omega
  · rw [if_neg h] at c ⊢; omega
theorem loN_eq (lo : Option Int) (n : Nat) : loN lo n = lo.elim 0 (clipAt n) := by
  cases lo with
  | none => rfl
  | some i => exact clampN_clip i n
theorem hiN_eq (hi : Option Int) (n : Nat) : hiN hi n = hi.elim n (clipAt n) := by
  cases hi with
  | none => rfl
  | some i => exact clampN_clip i n

theorem subOn_ok {a i r : PV} {va vi : Value} (h : subscr a i = some r) (sb : Sub g s.heap) (ra : Rep g a va) (ri : Rep g i vi) : SubOn (model prog w) A va vi (Gets s g r) s := by
  unfold subscr at h
  split at h
  · split at h
    · rename_i xs k hs
      obtain ⟨l, vs, rfl, hl, rs⟩ := rep_list sb ra
      obtain ⟨t, rfl⟩ := rep_int ri
      have hsm := hs.1
      simp only [smallI, Bool.and_eq_true, decide_eq_true_eq] at hsm
      refine ⟨"list", _, slot_list_getitem.lookup, hl.typeIs, ?_⟩
      unfold indexL at h
      split at h
      · rename_i h0
        obtain ⟨v, ev, rv⟩ := rs.get h
        exact wpAny_getItem_list hl h0 (by omega) (x := v) (by simpa using ev) ⟨g, Grow.refl sb, rv⟩
      · rename_i h0
        split at h
        · rename_i h1
          have hlen := rs.len
          obtain ⟨v, ev, rv⟩ := rs.get h
          exact wpAny_getItem_list_neg hl (by omega) (by simp only [List.size_toArray, hlen]; omega) (by omega) (x := v) (by simpa [hlen] using ev) ⟨g, Grow.refl sb, rv⟩
        · cases h
    · cases h
  · split at h
    · rename_i b k hs
      obtain ⟨u, rfl⟩ := rep_bytes ra
      obtain ⟨t, rfl⟩ := rep_int ri
      have hsm := hs.1
      have hz := hs.2
      simp only [smallI, Bool.and_eq_true, decide_eq_true_eq] at hsm
      refine ⟨"bytes", _, FB.slot_bytes_getitem.lookup, typeIs_bytes _ _ _, ?_⟩
      obtain ⟨c, hc, rfl⟩ := Option.map_eq_some_iff.mp h
      unfold indexL at hc
      split at hc
      · rename_i h0
        have hlt : k.toNat < b.length := (List.getElem?_eq_some_iff.mp hc).1
        refine getItem_bytes (Nat.le_trans hz (by decide)) h0 (by omega) ?_
        have : b.getD k.toNat 0 = c := by rw [List.getD_eq_getElem?_getD, hc]; rfl
        rw [this]
        exact gets_int sb
      · rename_i h0
        split at hc
        · rename_i h1
          have hlt : (k + b.length).toNat < b.length := (List.getElem?_eq_some_iff.mp hc).1
          refine getItem_gives (typeIs_bytes s _ u) (by decide) FB.slot_bytes_getitem FB.entry_bytes_getitem (FB.args_bytes_getitem_2 _ _) (gives_bytes_getitem _ k u t c ?_ ?_) (gets_int sb)
          · simp only [Builtin.Bytes.fitsIndex, Bool.and_eq_true, decide_eq_true_eq]; omega
          · have e : seqIndex? k b.toArray.size = some (k + b.length).toNat := by
              have h2 : k < 0 := by omega
              have h3 : k + (b.length : Int) < b.length := by omega
              simp [seqIndex?, h2, h1, h3]
            rw [e]
            have := (List.getElem?_eq_some_iff.mp hc).2
            simp [hlt, this]
        · cases hc
    · cases h
  · cases h

theorem sliceOn_ok {a r : PV} {va vl vu : Value} {lo hi : Option Int} (h : slicing a lo hi = some r) (sb : Sub g s.heap) (ra : Rep g a va) (pl : IsPart vl lo) (pu : IsPart vu hi) :
    SubOn (model prog w) A va (.ref s.heap.objs.size) (Gets s g r) { s with heap := s.heap.push (sliceObj vl vu) } := by
  unfold slicing at h
  split at h
  · split at h
    · rename_i xs hz
      cases h
      obtain ⟨l, vs, rfl, hl, rs⟩ := rep_list sb ra
      have hlen := rs.len
      refine ⟨"list", _, slot_list_getitem.lookup, (hl.push _).typeIs, wpAny_getItem_list_slice (hl.push _) (Heap.IsSliceOf.new ..) pl pu .none (by simp) ?_ (by rw [List.size_toArray, hlen]; exact lim_le hz)⟩
      rw [slicePick_plain]
      have e : Ext s.heap ((s.heap.push (sliceObj vl vu)).push { cls := .type "list", data := .seq (List.take ((hi.elim vs.toArray.size (clipAt vs.toArray.size)) - (lo.elim 0 (clipAt vs.toArray.size))) (List.drop (lo.elim 0 (clipAt vs.toArray.size)) vs.toArray.toList)).toArray }) := (Ext.push _ _).trans (Ext.push _ _)
      refine ⟨_, grow_of sb ⟨rfl, rfl, rfl⟩ e, ?_⟩
      simp only [Rep]
      refine ⟨_, List.take ((hi.elim vs.toArray.size (clipAt vs.toArray.size)) - (lo.elim 0 (clipAt vs.toArray.size))) (List.drop (lo.elim 0 (clipAt vs.toArray.size)) vs.toArray.toList), rfl, ⟨_, grown_new ?_ (Heap.get?_push_size _ rfl), rfl, _, rfl⟩, Reps.mono (grown_le sb) _ ?_⟩
      · cases q : s.heap.get? (s.heap.push (sliceObj vl vu)).objs.size with
        | none => rfl
        | some o => have := Heap.lt_size q; rw [Heap.size_push] at this; exact absurd (Nat.lt_of_succ_lt this) (Nat.lt_irrefl _)
      · unfold sliceL
        rw [loN_eq, hiN_eq]
        simp only [List.size_toArray, hlen]
        exact (rs.drop _).take _
    · cases h
  · split at h
    · rename_i b hz
      cases h
      obtain ⟨u, rfl⟩ := rep_bytes ra
      refine ⟨"bytes", _, FB.slot_bytes_getitem.lookup, typeIs_bytes _ _ _, getItem_meets (typeIs_bytes _ _ _) (by decide) FB.slot_bytes_getitem FB.entry_bytes_getitem (FB.args_bytes_getitem_2 _ _) (KBc.meets_slice2 b.toArray u _ pl pu)
        ⟨Heap.IsSliceOf.new _ _ _ _, Nat.le_trans (KBc.size_picked_le _ lo hi) (by rw [List.size_toArray]; exact lim_le hz), fun t' k => ?_⟩⟩
      refine gets_bytes sb ?_ (Ext.push _ _)
      rw [KBc.picked_eq]
      unfold sliceL
      rw [loN_eq, hiN_eq]
      simp
    · cases h
  · cases h
end
end Mine
end
section
open PySem PySem.W PyProof.Rows
open Sem (wp)
set_option Elab.async false
set_option maxRecDepth 100000
set_option linter.unusedVariables false
namespace Mine

section
variable {prog : Program} {w : World} {A : Around} {s : Shared} {g : Fz} {n : Nat}

theorem ints_items : ∀ {vs : List Value} {is : List Int}, IntsAre vs is → ∃ xs : List (Int × Tok), vs = xs.map (fun p => .int p.1 p.2) ∧ is = xs.map (·.1)
  | _, _, .nil => ⟨[], rfl, rfl⟩
  | _, _, .cons n t r => by
    obtain ⟨xs, h1, h2⟩ := ints_items r
    exact ⟨(n, t) :: xs, by simp [h1], by simp [h2]⟩
theorem numAt_list (xs : List (Int × Tok)) (i : Nat) : numAt xs.toArray i = (xs.map (·.1)).getD i 0 := by
  unfold numAt
  rw [List.getD_eq_getElem?_getD, List.getElem?_map]
  simp
theorem preSum_take (is : List Int) : ∀ k, k ≤ is.length → preSum (fun i => is.getD i 0) k = (is.take k).sum
  | 0, _ => by simp [preSum]
  | k + 1, h => by
    rw [preSum, preSum_take is k (by omega), List.take_add_one, List.sum_append]
    rw [List.getD_eq_getElem?_getD, List.getElem?_eq_getElem (by omega)]
    simp
theorem best_max (is : List Int) : ∀ k, k < is.length → ∃ v, (is.take (k + 1)) ≠ [] ∧ is.getD (argBest (fun i j => decide (is.getD i 0 > is.getD j 0)) k) 0 = v ∧ argBest (fun i j => decide (is.getD i 0 > is.getD j 0)) k ≤ k ∧ maxL (is.take (k + 1)) = some v
  | 0, h => by
    cases is with
    | nil => simp at h
    | cons a r => exact ⟨a, by simp, by simp [argBest], Nat.le_refl _, by simp [maxL]⟩
  | k + 1, h => by
    obtain ⟨v, hne, e, hle, hm⟩ := best_max is k (by omega)
    have ht : is.take (k + 1 + 1) = is.take (k + 1) ++ [is.getD (k + 1) 0] := by
      rw [List.take_add_one, List.getD_eq_getElem?_getD, List.getElem?_eq_getElem (by omega)]; rfl
    have hm' : maxL (is.take (k + 1 + 1)) = some (if is.getD (k + 1) 0 > v then is.getD (k + 1) 0 else v) := by
      rw [ht]
      cases q : is.take (k + 1) with
      | nil => exact absurd q hne
      | cons a r =>
        rw [q] at hm
        simp only [maxL, List.cons_append, List.foldl_append, List.foldl_cons, List.foldl_nil, Option.some.injEq] at hm ⊢
        rw [hm]
    refine ⟨_, by rw [ht]; simp, ?_, ?_, hm'⟩
    · simp only [argBest]
      by_cases c : is.getD (k + 1) 0 > is.getD (argBest (fun i j => decide (is.getD i 0 > is.getD j 0)) k) 0
      · rw [if_pos (decide_eq_true c), if_pos (by rw [← e]; exact c)]
      · rw [if_neg (by simpa using c), if_neg (by rw [← e]; exact c)]; exact e
    · simp only [argBest]
      split
      · exact Nat.le_refl _
      · omega
theorem best_min (is : List Int) : ∀ k, k < is.length → ∃ v, (is.take (k + 1)) ≠ [] ∧ is.getD (argBest (fun i j => decide (is.getD i 0 < is.getD j 0)) k) 0 = v ∧ argBest (fun i j => decide (is.getD i 0 < is.getD j 0)) k ≤ k ∧ minL (is.take (k + 1)) = some v
  | 0, h => by
    cases is with
    | nil => simp at h
    | cons a r => exact ⟨a, by simp, by simp [argBest], Nat.le_refl _, by simp [minL]⟩
  | k + 1, h => by
    obtain ⟨v, hne, e, hle, hm⟩ := best_min is k (by omega)
    have ht : is.take (k + 1 + 1) = is.take (k + 1) ++ [is.getD (k + 1) 0] := by
      rw [List.take_add_one, List.getD_eq_getElem?_getD, List.getElem?_eq_getElem (by omega)]; rfl
    have hm' : minL (is.take (k + 1 + 1)) = some (if is.getD (k + 1) 0 < v then is.getD (k + 1) 0 else v) := by
      rw [ht]
      cases q : is.take (k + 1) with
      | nil => exact absurd q hne
      | cons a r =>
        rw [q] at hm
        simp only [minL, List.cons_append, List.foldl_append, List.foldl_cons, List.foldl_nil, Option.some.injEq] at hm ⊢
        rw [hm]
    refine ⟨_, by rw [ht]; simp, ?_, ?_, hm'⟩
    · simp only [argBest]
      by_cases c : is.getD (k + 1) 0 < is.getD (argBest (fun i j => decide (is.getD i 0 < is.getD j 0)) k) 0
      · rw [if_pos (decide_eq_true c), if_pos (by rw [← e]; exact c)]
      · rw [if_neg (by simpa using c), if_neg (by rw [← e]; exact c)]; exact e
    · simp only [argBest]
      split
      · exact Nat.le_refl _
      · omega

theorem len_ok {ps : List PV} {v : Value} (sb : Sub g s.heap) (r : Rep g (.list ps) v) (hz : ps.length ≤ lim) : wpAny (model prog w) A (call (.builtin "len") [v]) (Gets s g (.int ps.length)) F0 s := by
  obtain ⟨a, vs, rfl, hl, rs⟩ := rep_list sb r
  have e := rs.len
  refine Calls.call_len_list hl ?_ ?_
  · rw [List.size_toArray, e]
    have : ps.length ≤ 100000 := hz
    omega
  · rw [List.size_toArray, e]
    exact gets_int sb
theorem len_bytes_ok {b : List UInt8} {v : Value} (sb : Sub g s.heap) (r : Rep g (.bytes b) v) (hz : b.length ≤ lim) : wpAny (model prog w) A (call (.builtin "len") [v]) (Gets s g (.int b.length)) F0 s := by
  obtain ⟨t, rfl⟩ := rep_bytes r
  refine len_bytes (by rw [List.size_toArray]; exact Nat.le_trans hz (by decide)) ?_
  rw [List.size_toArray]
  exact gets_int sb
theorem gets_rng {a b c : Int} {t u v tk : Tok} (sb : Sub g s.heap) : Gets s g (.rng a b c) (.ref s.heap.objs.size) { s with heap := s.heap.push { cls := .type "range", data := .fields #[.int a t, .int b u, .int c v] }, toks := tk } :=
  gets_of sb ⟨rfl, rfl, rfl⟩ (Ext.push _ _) (by simp only [Rep]; exact ⟨_, t, u, v, rfl, grown_new (get_size _) (Heap.get?_push_size _ rfl)⟩)
theorem small_log {i : Int} (h : smallI i = true) : i.natAbs.log2 < 9000 := by
  simp only [smallI, Bool.and_eq_true, decide_eq_true_eq] at h
  by_cases h0 : i.natAbs = 0
  · rw [h0]; decide +kernel
  · have : i.natAbs.log2 < 64 := (Nat.log2_lt h0).mpr (by omega)
    omega
theorem sum_ok {ps : List PV} {is : List Int} {v : Value} (hh : A.handled = none) (sb : Sub g s.heap) (r : Rep g (.list ps) v) (hi : asInts ps = some is) : wpAny (model prog w) A (call (.builtin "sum") [v]) (Gets s g (.int is.sum)) F0 s := by
  obtain ⟨a, vs, rfl, hl, rs⟩ := rep_list sb r
  obtain ⟨xs, rfl, rfl⟩ := ints_items (ints_of hi rs)
  have hl' : s.heap.IsList a (intItems xs.toArray) := by
    have : intItems xs.toArray = (xs.map fun p => Value.int p.1 p.2).toArray := by simp [intItems]
    rw [this]; exact hl
  refine call_sum_walkG (iter_intList hl' fun s₂ e st hfp hlI => ?_)
  subst e
  refine ⟨_, _, _, _, _, _, numAt xs.toArray, rfl, Walks.list (A := A.in1) hh _ a hlI (intItems xs.toArray), st, hfp, fun i v => intItems_at, fun h' tk t' hk => ?_⟩
  have e : preSum (numAt xs.toArray) (intItems xs.toArray).size = (xs.map (·.1)).sum := by
    have e1 : numAt xs.toArray = fun i => (xs.map (·.1)).getD i 0 := funext (numAt_list xs)
    rw [e1, preSum_take _ _ (by simp [intItems])]
    rw [List.take_of_length_le (by simp [intItems])]
  rw [e]
  exact gets_int sb (old_kept hk)
theorem abs_ok {a : Int} {v : Value} (sb : Sub g s.heap) (r : Rep g (.int a) v) : wpAny (model prog w) A (call (.builtin "abs") [v]) (Gets s g (.int (if a < 0 then -a else a))) F0 s := by
  obtain ⟨t, rfl⟩ := rep_int r
  exact PyProof.Rows.call_abs_int fun u tk => gets_int sb
theorem max2_ok {a b : Int} {v u : Value} (hh : A.handled = none) (sb : Sub g s.heap) (r : Rep g (.int a) v) (r' : Rep g (.int b) u) : wpAny (model prog w) A (call (.builtin "max") [v, u]) (Gets s g (.int (if b > a then b else a))) F0 s := by
  obtain ⟨t, rfl⟩ := rep_int r
  obtain ⟨t', rfl⟩ := rep_int r'
  refine max_two_ints hh fun h' tk hk => ?_
  split
  · exact gets_int sb hk
  · exact gets_int sb hk
theorem min2_ok {a b : Int} {v u : Value} (hh : A.handled = none) (sb : Sub g s.heap) (r : Rep g (.int a) v) (r' : Rep g (.int b) u) : wpAny (model prog w) A (call (.builtin "min") [v, u]) (Gets s g (.int (if b < a then b else a))) F0 s := by
  obtain ⟨t, rfl⟩ := rep_int r
  obtain ⟨t', rfl⟩ := rep_int r'
  refine min_two_ints hh fun h' tk hk => ?_
  split
  · exact gets_int sb hk
  · exact gets_int sb hk
theorem maxL_ok {ps : List PV} {is : List Int} {m : Int} {v : Value} (hh : A.handled = none) (sb : Sub g s.heap) (r : Rep g (.list ps) v) (hi : asInts ps = some is) (hm : maxL is = some m) : wpAny (model prog w) A (call (.builtin "max") [v]) (Gets s g (.int m)) F0 s := by
  obtain ⟨a, vs, rfl, hl, rs⟩ := rep_list sb r
  obtain ⟨xs, rfl, rfl⟩ := ints_items (ints_of hi rs)
  have hl' : s.heap.IsList a (intItems xs.toArray) := by
    have : intItems xs.toArray = (xs.map fun p => Value.int p.1 p.2).toArray := by simp [intItems]
    rw [this]; exact hl
  have hne : 0 < xs.length := by cases xs with | nil => cases hm | cons => simp
  have e1 : numAt xs.toArray = fun i => (xs.map (·.1)).getD i 0 := funext (numAt_list xs)
  refine max_intList hh hl' (by simpa using hne) fun v h' tk hv hk => ?_
  obtain ⟨t, rfl⟩ := intItems_at hv
  obtain ⟨m', _, e2, _, e3⟩ := best_max (xs.map (·.1)) (xs.length - 1) (by rw [List.length_map]; omega)
  have e4 : (xs.map (·.1)).take (xs.length - 1 + 1) = xs.map (·.1) := List.take_of_length_le (by rw [List.length_map]; omega)
  rw [e4, hm] at e3
  cases e3
  rw [e1]
  rw [show xs.toArray.size = xs.length from List.size_toArray]
  dsimp only
  rw [e2]
  exact gets_int sb hk
theorem minL_ok {ps : List PV} {is : List Int} {m : Int} {v : Value} (hh : A.handled = none) (sb : Sub g s.heap) (r : Rep g (.list ps) v) (hi : asInts ps = some is) (hm : minL is = some m) : wpAny (model prog w) A (call (.builtin "min") [v]) (Gets s g (.int m)) F0 s := by
  obtain ⟨a, vs, rfl, hl, rs⟩ := rep_list sb r
  obtain ⟨xs, rfl, rfl⟩ := ints_items (ints_of hi rs)
  have hl' : s.heap.IsList a (intItems xs.toArray) := by
    have : intItems xs.toArray = (xs.map fun p => Value.int p.1 p.2).toArray := by simp [intItems]
    rw [this]; exact hl
  have hne : 0 < xs.length := by cases xs with | nil => cases hm | cons => simp
  have e1 : numAt xs.toArray = fun i => (xs.map (·.1)).getD i 0 := funext (numAt_list xs)
  refine min_intList hh hl' (by simpa using hne) fun v h' tk hv hk => ?_
  obtain ⟨t, rfl⟩ := intItems_at hv
  obtain ⟨m', _, e2, _, e3⟩ := best_min (xs.map (·.1)) (xs.length - 1) (by rw [List.length_map]; omega)
  have e4 : (xs.map (·.1)).take (xs.length - 1 + 1) = xs.map (·.1) := List.take_of_length_le (by rw [List.length_map]; omega)
  rw [e4, hm] at e3
  cases e3
  rw [e1]
  rw [show xs.toArray.size = xs.length from List.size_toArray]
  dsimp only
  rw [e2]
  exact gets_int sb hk

theorem ints_reps : ∀ {vs : List Value} {is : List Int}, IntsAre vs is → Reps g (intVals is) vs
  | _, _, .nil => Reps.nil
  | _, _, .cons n t r => Reps.cons ⟨t, rfl⟩ (ints_reps r)
theorem perm_sorted : ∀ {a b : List Int}, a.Perm b → a.Pairwise (· ≤ ·) → b.Pairwise (· ≤ ·) → a = b
  | [], b, p, _, _ => by rw [List.nil_perm.mp p]
  | x :: a, [], p, _, _ => by have := p.length_eq; simp at this
  | x :: a, y :: b, p, ha, hb => by
    rw [List.pairwise_cons] at ha hb
    have xy : x = y := by
      have h1 : y ∈ x :: a := p.mem_iff.mpr List.mem_cons_self
      have h2 : x ∈ y :: b := p.mem_iff.mp List.mem_cons_self
      have a1 : x ≤ y := by
        rcases List.mem_cons.mp h1 with e | e
        · exact Int.le_of_eq e.symm
        · exact ha.1 y e
      have a2 : y ≤ x := by
        rcases List.mem_cons.mp h2 with e | e
        · exact Int.le_of_eq e.symm
        · exact hb.1 x e
      exact Int.le_antisymm a1 a2
    subst xy
    rw [perm_sorted ((List.perm_cons x).mp p) ha.2 hb.2]
theorem insI_perm (a : Int) : ∀ l : List Int, (insI a l).Perm (a :: l)
  | [] => List.Perm.refl _
  | b :: r => by
    simp only [insI]
    split
    · exact List.Perm.refl _
    · exact ((insI_perm a r).cons b).trans (List.Perm.swap a b r)
theorem sortI_perm : ∀ l : List Int, (sortI l).Perm l
  | [] => List.Perm.refl _
  | a :: r => (insI_perm a (sortI r)).trans ((sortI_perm r).cons a)
theorem insI_sorted (a : Int) : ∀ {l : List Int}, l.Pairwise (· ≤ ·) → (insI a l).Pairwise (· ≤ ·)
  | [], _ => by simp [insI]
  | b :: r, h => by
    simp only [insI]
    rw [List.pairwise_cons] at h
    split
    · rename_i hab
      refine List.pairwise_cons.mpr ⟨fun x hx => ?_, List.pairwise_cons.mpr h⟩
      rcases List.mem_cons.mp hx with rfl | hx
      · exact hab
      · exact Int.le_trans hab (h.1 x hx)
    · rename_i hab
      refine List.pairwise_cons.mpr ⟨fun x hx => ?_, insI_sorted a h.2⟩
      rcases List.mem_cons.mp ((insI_perm a r).mem_iff.mp hx) with rfl | hx
      · omega
      · exact h.1 x hx
theorem sortI_sorted : ∀ l : List Int, (sortI l).Pairwise (· ≤ ·)
  | [] => List.Pairwise.nil
  | a :: r => insI_sorted a (sortI_sorted r)
theorem sorted_ok {ps : List PV} {is : List Int} {v : Value} (sb : Sub g s.heap) (r : Rep g (.list ps) v) (hi : asInts ps = some is) (hz : ps.length < 64) : wpAny (model prog w) A (call (.builtin "sorted") [v]) (Gets s g (.list (intVals (sortI is)))) F0 s := by
  obtain ⟨a, vs, rfl, hl, rs⟩ := rep_list sb r
  refine sorted_ints hl (ints_of hi rs) (by rw [rs.len]; exact hz) fun out ns' ho hp hs => ?_
  have e : ns' = sortI is := perm_sorted (hp.trans (sortI_perm is).symm) hs (sortI_sorted is)
  obtain ⟨k, hk⟩ := sortedAll_at s.heap vs out
  have old : Ext s.heap (sortedAll s.heap vs out) := fun b o e => sortedAll_old e
  refine gets_of sb ⟨rfl, rfl, rfl⟩ old ?_
  simp only [Rep]
  refine ⟨_, out.toList, rfl, ⟨_, grown_new ?_ hk, rfl, k, by simp [seqObj]⟩, ?_⟩
  · cases q : s.heap.get? (s.heap.objs.size + 1) with
    | none => rfl
    | some o => exact absurd (Nat.lt_of_succ_lt (Heap.lt_size q)) (Nat.lt_irrefl _)
  · rw [← e]
    exact ints_reps ho
theorem bytes_ints_ok {ps : List PV} {b : List UInt8} {v : Value} (hh : A.handled = none) (sb : Sub g s.heap) (r : Rep g (.list ps) v) (hb : mapO asByte ps = some b) (hz : ps.length ≤ lim) : wpAny (model prog w) A (call (.type "bytes") [v]) (Gets s g (.bytes b)) F0 s := by
  obtain ⟨a, vs, rfl, hl, rs⟩ := rep_list sb r
  have key : ∀ {ps : List PV} {vs : List Value} {b : List UInt8}, mapO asByte ps = some b → Reps g ps vs → ∃ is, asInts ps = some is ∧ (∀ n ∈ is, 0 ≤ n ∧ n < 256) ∧ b = is.map fun n => n.toNat.toUInt8 := by
    intro ps
    induction ps with
    | nil =>
      intro vs b h _
      simp only [mapO, Option.some.injEq] at h
      subst h
      exact ⟨[], rfl, by simp, rfl⟩
    | cons p ps ih =>
      intro vs b h r
      obtain ⟨c, t, hc, ht, rfl⟩ := mapO_cons h
      simp only [Reps] at r
      obtain ⟨v, r', rfl, rv, rr⟩ := r
      obtain ⟨is, h1, h2, rfl⟩ := ih ht rr
      unfold asByte at hc
      split at hc
      · rename_i i
        split at hc
        · rename_i hi
          cases hc
          refine ⟨i :: is, ?_, ?_, rfl⟩
          · unfold asInts at h1 ⊢
            simp only [mapO, asInt, h1]
          · intro n hn
            rcases List.mem_cons.mp hn with rfl | hn
            · exact hi
            · exact h2 n hn
        · cases hc
      · cases hc
  obtain ⟨is, h1, h2, rfl⟩ := key hb rs
  refine call_bytes_ints hl (ints_of h1 rs) h2 (by rw [rs.len]; exact lim_le hz) hh fun h' t k hk => ?_
  exact gets_bytes sb rfl hk
theorem isinst_ok {b : List UInt8} {v : Value} (sb : Sub g s.heap) (r : Rep g (.bytes b) v) : wpAny (model prog w) A (call (.builtin "isinstance") [v, .type "bytes"]) (Gets s g (.bool true)) F0 s := by
  obtain ⟨t, rfl⟩ := rep_bytes r
  exact PyProof.Rows.call_isinstance_yes (typeIs_bytes s _ t) (by kernel_rfl) (by rw [isSubtype_type]; kernel_rfl) (gets_bool sb)
end
end Mine
end
section
open PySem PySem.W PyProof.Rows
open Sem (wp)
set_option Elab.async false
set_option maxRecDepth 100000
set_option linter.unusedVariables false
namespace Mine
theorem ba_mro : mroOf (.type "bytearray") = pure [.type "bytearray", .type "object"] := by rw [mroOf_type]; kernel_rfl
theorem ba_lookup_new : typeLookup (.type "bytearray") "__new__" = pure (some (.builtin "bytearray.__new__")) := by rw [typeLookup_type, builtinLookup_eq_fast]; kernel_rfl
theorem ba_slot_init : Slot "bytearray" "__init__" "bytearray.__init__" :=
  .of (owner := "bytearray") (n := "__init__") (by rw [typeLookup_type, builtinLookup_eq_fast]; kernel_rfl) (by decide +kernel) (by decide +kernel) (by decide +kernel)
    (by first | exact .inl (by decide +kernel) | exact .inr (by decide +kernel)) (by rw [isSubtype_type]; kernel_rfl)
theorem ba_called : TypeCalled "bytearray" "bytearray.__new__" "bytearray.__init__" :=
  ⟨by decide +kernel, by decide +kernel, ⟨_, _, ba_mro⟩, madeBy_type ba_mro ba_lookup_new (by decide +kernel), by decide +kernel, by rw [isSubtype_type]; kernel_rfl, ba_slot_init⟩
theorem ba_typeCall (a : Value) : checkTypeCall "bytearray" ⟨[a], []⟩ = pure () := by kernel_rfl
theorem ba_newCall (a : Value) : checkBuiltinCall "bytearray.__new__" ⟨[.type "bytearray", a], []⟩ = pure () := by kernel_rfl
theorem ba_plain : plainId "bytearray.__new__" = true := by decide +kernel
theorem ba_entry : entryFor table "bytearray.__new__" = some Builtin.«list.__new__» :=
  entryFor_alias (id' := "list.__new__") (by kernel_rfl) (by first | rfl | decide +kernel | (unfold String.splitOn; simp +decide [String.splitOnAux])) (by decide +kernel) (by kernel_rfl)
set_option maxRecDepth 1000000 in
set_option maxHeartbeats 4000000 in
theorem ba_owner_new : ("bytearray.__new__".splitOn ".__new__").headD "" = "bytearray" := by simp +decide [String.splitOn, String.splitOnAux]
theorem ba_sub : isSubtype (.type "bytearray") (.type "bytearray") = pure true := by rw [isSubtype_type]; kernel_rfl
theorem ba_entry_init : entryFor table "bytearray.__init__" = some Builtin.«bytearray.__init__» := by first | exact entryFor_of_fast (by kernel_rfl) | exact entryFor_of_tree (by kernel_rfl)
theorem ba_bind (v : Value) : Builtin.Bytes.bindOptional "bytearray.__init__" "bytearray" ["source", "encoding", "errors"] [v] [] = pure [some v, none, none] := by kernel_rfl
theorem ba_owner : Manifest.owners.lookup (String.ofList ['y', 'a', 'r', 'r', 'a', 'e', 't', 'y', 'b'].reverse) = some Manifest.sig_bytearray := by kernel_rfl
theorem ba_args_init (a b : Value) : argsOk "bytearray.__init__" ⟨[a, b], []⟩ := by
  unfold argsOk; rw [signature?_of (id := "bytearray.__init__") (n := ['_', '_', 't', 'i', 'n', 'i', '_', '_']) (o := ['y', 'a', 'r', 'r', 'a', 'e', 't', 'y', 'b']) (by kernel_rfl) ba_owner]; kernel_rfl

section
variable {prog : Program} {w : World} {A : Around} {E : Value → Shared → Prop} {s : Shared} {g : Fz} {n : Nat}

theorem ba_new_code (a : Value) {Q₁ : Value → Shared → Prop} (h : Q₁ (.ref s.heap.objs.size) { s with heap := s.heap.push (barrObj []) }) :
    codeAny (model prog w) A (.call (.builtin "bytearray.__new__") ⟨[.type "bytearray", a], []⟩) (wants Q₁ E) s := by
  refine codeAny_of_tree ?_
  show wpAny _ A.in1 (do checkBuiltinCall "bytearray.__new__" ⟨[.type "bytearray", a], []⟩; again (.builtin "bytearray.__new__" ⟨[.type "bytearray", a], []⟩)) _ _ s
  refine wpAny_bind (wpAny_of_eq (ba_newCall a) (wpAny_pure ⟨plainId_quiet ba_plain _, codeAny_builtin_stack ba_entry rfl fun p st => ?_⟩))
  rw [Around.under_plainId ba_plain _]
  have hsub := ba_sub
  have hown := ba_owner_new
  obtain ⟨hp, g, d, tk, os⟩ := s
  simp only [hown]
  wp_walk
  exact h

theorem exp_ok {self : Value} {Q : Bool → Shared → Prop} (h : Q false s) : wpG (model prog w) A (Builtin.Bytes.exported self) Q s := fun Γ p i k => by
  unfold Builtin.Bytes.exported
  show Q (((Γ.code, p) :: Γ.below).any _) s
  rw [show (((Γ.code, p) :: Γ.below).any _) = false from ?_]
  · exact h
  · rw [List.any_eq_false]
    intro x hx
    have ok : okCode x.1 = true := by
      rcases List.mem_cons.mp hx with rfl | hx
      · exact k.1
      · exact k.2 x hx
    obtain ⟨c, q⟩ := x
    dsimp only at ok
    rw [Bool.not_eq_true]
    delta Builtin.Bytes.exported.match_1
    cases c
    case builtin id args =>
      obtain ⟨pos, kw⟩ := args
      have n : ∀ s, holders.contains s = true → id ≠ s := by
        rintro s hs rfl
        have ok' : (!holders.contains id) = true := ok
        rw [hs] at ok'
        exact absurd ok' (by decide)
      refine Eq.trans (dif_neg (n _ (by decide))) ?_
      refine Eq.trans (dif_neg (n _ (by decide))) ?_
      refine Eq.trans (dif_neg (n _ (by decide))) ?_
      refine Eq.trans (dif_neg (n _ (by decide))) ?_
      refine Eq.trans (dif_neg (n _ (by decide))) ?_
      cases pos with
      | nil => rfl
      | cons v vs =>
        show (Builtin.Bytes.sameRef v self && Builtin.Bytes.decodersThatHold.contains id) = false
        have : Builtin.Bytes.decodersThatHold.contains id = false := by
          rw [Bool.eq_false_iff]
          intro hc
          refine n id ?_ rfl
          unfold holders
          rw [List.contains_iff_mem] at hc ⊢
          exact List.mem_append_left _ hc
        rw [this, Bool.and_false]
    all_goals rfl

theorem ba_no_release : typeLookup (.type "bytearray") "__release_buffer__" = pure (some (.builtin "bytearray.__release_buffer__")) := by rw [typeLookup_type, builtinLookup_eq_fast]; kernel_rfl
theorem ba_rel1 : (!("bytearray.__release_buffer__" : String).endsWith ("." ++ "__release_buffer__")) = false := by decide +kernel
theorem ba_own {a : Addr} {b : List UInt8} {Q : Bool → Shared → Prop} (ho : s.heap.get? a = some (barrObj b)) (h : Q false s) : wpAny (model prog w) A (Builtin.Bytes.ownRelease (.ref a)) Q E s := by
  have hT : s.TypeIs (.ref a) "bytearray" := ⟨_, ho, rfl⟩
  unfold Builtin.Bytes.ownRelease Builtin.Bytes.slotIsOwn
  refine wpAny_bind (wpAny_bind (wpAny_specialOf hT ba_no_release ?_))
  show wpAny _ _ (if (!("bytearray.__release_buffer__" : String).endsWith ("." ++ "__release_buffer__")) = true then _ else _) _ _ _
  rw [ba_rel1, if_neg Bool.false_ne_true]
  rw [show (String.dropRight "bytearray.__release_buffer__" ("__release_buffer__".length + 1) : String) = "bytearray" from by decide +kernel]
  exact wpAny_isInstance (T := "bytearray") (b := true) hT ba_sub (wpAny_pure h)
theorem ba_write {a : Addr} {b : List UInt8} {f : Array UInt8 → Array UInt8} {Q : Unit → Shared → Prop} (ho : s.heap.get? a = some (barrObj b)) (hz : (f b.toArray).size ≤ sizeLine)
    (h : ∀ h', h'.get? a = some (barrObj (f b.toArray).toList) → Heap.SameBut a s.heap h' → Q () { s with heap := h' }) : wpAny (model prog w) A (Builtin.Bytes.write (.ref a) f) Q E s := by
  show wpAny _ _ (updateBytearray a f) _ _ _
  unfold updateBytearray
  refine wpAny_bind (wpAny_load ho ?_)
  show wpAny _ _ (update a (Obj.mapBytearray f) >>= fun _ => lookBehind a) _ _ _
  refine wpAny_bind (wpAny_update ho ?_)
  have h2 : (s.heap.update a (Obj.mapBytearray f)).get? a = some (barrObj (f b.toArray).toList) := by
    have := Heap.get?_update_self (Obj.mapBytearray f) ho rfl
    rw [this]; rfl
  refine wpAny_lookBehind h2 ?_ (h _ h2 (Heap.SameBut.update ..))
  show (if (f b.toArray).toList.toArray.size > sizeLine then some "bytearray:memory" else none) = none
  rw [if_neg]
  simpa using hz
theorem int_index : typeLookup (.type "int") "__index__" = pure (some (.builtin "int.__index__")) := F.slot_int_index.lookup

theorem bm_no {c : Prop} [Decidable c] {X Y : Prop} (hc : ¬ c) (h : Y) : if c then X else Y := by rw [if_neg hc]; exact h
theorem bm_yes {c : Prop} [Decidable c] {X Y : Prop} (hc : c) (h : X) : if c then X else Y := by rw [if_pos hc]; exact h
theorem ba_init {a : Addr} {k : Int} {t : Tok} {Q : Fin → Shared → Prop} (ho : s.heap.get? a = some (barrObj [])) (h0 : 0 ≤ k) (h1 : k ≤ 100000)
    (h : ∀ h', h'.get? a = some (barrObj (List.replicate k.toNat 0)) → Heap.SameBut a s.heap h' → Q (.done (.ret .none)) { s with heap := h' }) :
    wpG (model prog w) A (Builtin.«bytearray.__init__» ⟨[.ref a, .int k t], []⟩) Q s := by
  unfold Builtin.«bytearray.__init__»
  refine G_obind (ba_own ho ?_)
  refine G_eq (t := _) (if_neg Bool.false_ne_true) ?_
  refine G_obind (wpAny_of_eq (ba_bind _) ?_)
  refine G_bind (G_pure (a := ()) ?_)
  refine G_bind (G_pure (a := ()) ?_)
  refine G_bind (G_bind ?_)
  refine exp_ok ?_
  show wpG _ _ (Builtin.Bytes.exportsOf (.ref a) >>= _) _ _
  refine G_bind ?_
  show wpG _ _ (load a >>= _) _ _
  refine G_obind (wpAny_load ho ?_)
  refine G_pure (G_pure ?_)
  refine G_eq (t := _) (if_neg Bool.false_ne_true) ?_
  refine G_of ?_
  refine wpAny_bind (ba_write ho (Nat.zero_le _) fun h₁ ho₁ hs₁ => ?_)
  have hT : ({ s with heap := h₁ } : Shared).TypeIs (.int k t) "int" := typeIs_int _ k t
  refine wpAny_bind (m := asStr? (.int k t)) (wpAny_pure ?_)
  refine wpAny_ite (bm_no (by simp) ?_)
  refine wpAny_bind (wpAny_pure ?_)
  refine wpAny_bind (wpAny_specialOf hT int_index ?_)
  refine wpAny_ite (bm_yes rfl ?_)
  refine wpAny_bind (wpAny_attempt (wpAny_of_eq (rfl : asIndex (.int k t) = pure k) ?_))
  refine wpAny_ite (bm_no (by simp [Builtin.Bytes.fitsIndex]; omega) ?_)
  refine wpAny_ite (bm_no (by omega) ?_)
  refine wpAny_ite (bm_no (by simp; omega) ?_)
  refine wpAny_ite (bm_no (by simp [Builtin.Bytes.tooLong, sizeLine]; omega) ?_)
  refine wpAny_bind (wpAny_rule ?_)
  by_cases hk : k > 0
  · refine wpAny_ite (bm_yes hk ?_)
    refine wpAny_bind (ba_write ho₁ (by simp only [Array.size_replicate]; rw [sizeLine_eq]; omega) fun h₂ ho₂ hs₂ => ?_)
    refine wpAny_pure (h h₂ ?_ (hs₁.trans hs₂))
    rw [ho₂]
    simp
  · refine wpAny_ite (bm_no hk ?_)
    refine wpAny_pure (h h₁ ?_ hs₁)
    have : k.toNat = 0 := by omega
    rw [ho₁, this]
    rfl

theorem C_builtin {id : String} {args : PySem.Args} {b : Builtin} {R : Flow → Shared → Prop} (hb : entryFor table id = some b)
    (h : wpG (model prog w) (A.under (.builtin id args)) (b args) (fun fin s' => match fin with | .done f => R f s' | .again c' => c'.quiet = true ∧ okCode c' = true ∧ codeG (model prog w) A c' R s') s) : codeG (model prog w) A (.builtin id args) R s := by
  refine C_tree ?_
  show wpG _ _ (match entryFor table id with | some b => b args | none => unsupported ((withoutEnding? id "#data").getD id)) _ s
  rw [hb]; exact h
theorem ba_quiet (args : PySem.Args) : (Code.builtin "bytearray.__init__" args).quiet = true := plainId_quiet (by decide +kernel) args
theorem ba_under (args : PySem.Args) : A.under (.builtin "bytearray.__init__" args) = A.in1 := Around.under_plainId (by decide +kernel) args
theorem call_bytearray {k : Int} {t : Tok} {Q : Value → Shared → Prop} (h0 : 0 ≤ k) (h1 : k ≤ 100000)
    (h : ∀ h', h'.get? s.heap.objs.size = some (barrObj (List.replicate k.toNat 0)) → Ext s.heap h' → Q (.ref s.heap.objs.size) { s with heap := h' }) :
    wpG (model prog w) A (call (.type "bytearray") [.int k t]) Q s := by
  refine G_runValue (C_tree ?_)
  show wpG _ _ (callAny (.type "bytearray") _) _ _
  refine G_pure ⟨Code.quiet_builtin _ (by decide +kernel), by show (!holders.contains "type.__call__") = true; decide, C_builtin F.entry_type_call ?_⟩
  rw [Around.under_plain (weight_type_call_type "bytearray" [.int k t] []) rfl]
  unfold Builtin.«type.__call__»
  refine G_eq (t := _) (if_neg (by rw [ba_called.notType]; exact Bool.false_ne_true)) ?_
  have h2 := ba_called.canCreate
  refine G_eq (t := _) (if_neg (by rw [h2]; exact Bool.false_ne_true)) ?_
  refine G_bind (G_eq (ba_typeCall _) (G_pure ?_))
  refine G_bind (G_eq ba_mro (G_pure ?_))
  refine G_eq (t := _) (if_neg Bool.false_ne_true) ?_
  refine G_bind (G_eq ba_called.made (G_pure ?_))
  refine G_bind (G_pure ?_)
  refine G_bind (G_holding (G_of (wpAny_call (codeAny_mono (ba_new_code (E := F0) (Q₁ := fun v s' => v = .ref s.heap.objs.size ∧ s' = { s with heap := s.heap.push (barrObj []) }) (.int k t) ⟨rfl, rfl⟩) fun r s' hr => ?_))))
  cases r with
  | error e => exact hr
  | ok f =>
    cases f with
    | ret v =>
      obtain ⟨rfl, rfl⟩ := hr
      show wpG _ _ _ _ _
      have ho : (s.heap.push (barrObj [])).get? s.heap.objs.size = some (barrObj []) := Heap.get?_push_size _ rfl
      have hT : ({ s with heap := s.heap.push (barrObj []) } : Shared).TypeIs (.ref s.heap.objs.size) "bytearray" := ⟨_, ho, rfl⟩
      refine G_obind (wpAny_isInstance (T := "bytearray") (b := true) hT ba_sub ?_)
      refine G_eq (t := _) (if_neg Bool.false_ne_true) ?_
      refine G_bind (G_holding ?_)
      unfold callSpecial?
      refine G_obind (wpAny_specialOf hT ba_slot_init.lookup ?_)
      simp only [ba_slot_init.bind]
      refine G_holding (G_bind (G_pure (G_bind ?_)))
      refine G_runValue (C_tree ?_)
      show wpG _ A.in1.in1 (do checkBuiltinCall "bytearray.__init__" _; again (.builtin "bytearray.__init__" _)) _ _
      refine G_obind (ba_slot_init.check _ _ _ _ _ _ _ _ hT (ba_args_init _ _) ?_)
      refine G_pure ⟨ba_quiet _, by show (!holders.contains "bytearray.__init__") = true; decide, C_builtin ba_entry_init ?_⟩
      rw [ba_under]
      refine ba_init ho h0 h1 fun h' e1 e2 => ?_
      refine G_pure ?_
      refine G_eq (t := _) (if_neg (by decide)) ?_
      exact G_ret (h h' e1 fun b o e => e2.extBut b o (Nat.ne_of_lt (Heap.lt_size e)) (Heap.get?_push_of_some _ e))
    | _ => exact hr.elim
end
end Mine
end
section
open PySem PySem.W PyProof.Rows
open Sem (wp)
set_option Elab.async false
set_option maxRecDepth 100000
set_option linter.unusedVariables false
namespace Mine
theorem ba_slot_setitem : Slot "bytearray" "__setitem__" "bytearray.__setitem__" :=
  .of (owner := "bytearray") (n := "__setitem__") (by rw [typeLookup_type, builtinLookup_eq_fast]; kernel_rfl) (by decide +kernel) (by decide +kernel) (by decide +kernel)
    (by first | exact .inl (by decide +kernel) | exact .inr (by decide +kernel)) (by rw [isSubtype_type]; kernel_rfl)
theorem ba_entry_setitem : entryFor table "bytearray.__setitem__" = some Builtin.«bytearray.__setitem__» := by first | exact entryFor_of_fast (by kernel_rfl) | exact entryFor_of_tree (by kernel_rfl)
theorem ba_args_setitem (a b c : Value) : argsOk "bytearray.__setitem__" ⟨[a, b, c], []⟩ := by
  unfold argsOk; rw [signature?_of (id := "bytearray.__setitem__") (n := ['_', '_', 'm', 'e', 't', 'i', 't', 'e', 's', '_', '_']) (o := ['y', 'a', 'r', 'r', 'a', 'e', 't', 'y', 'b']) (by kernel_rfl) ba_owner]; kernel_rfl
theorem ba_no_bytes : typeLookup (.type "bytearray") "__bytes__" = pure none := by rw [typeLookup_type, builtinLookup_eq_fast]; kernel_rfl
theorem ba_no_index : typeLookup (.type "bytearray") "__index__" = pure none := by rw [typeLookup_type, builtinLookup_eq_fast]; kernel_rfl
theorem ba_buffer : typeLookup (.type "bytearray") "__buffer__" = pure (some (.builtin "bytearray.__buffer__")) := by rw [typeLookup_type, builtinLookup_eq_fast]; kernel_rfl
theorem ba_buf1 : (!("bytearray.__buffer__" : String).endsWith ("." ++ "__buffer__")) = false := by decide +kernel

section
variable {prog : Program} {w : World} {A : Around} {E : Value → Shared → Prop} {s : Shared} {g : Fz} {n : Nat}

theorem ba_payload {a : Addr} {b : List UInt8} {Q : Array UInt8 → Shared → Prop} (ho : s.heap.get? a = some (barrObj b)) (h : Q b.toArray s) : wpAny (model prog w) A (Builtin.Bytes.payload (.ref a)) Q E s := by
  unfold Builtin.Bytes.payload Builtin.Bytes.payload?
  refine wpAny_bind (wpAny_bind (wpAny_load ho ?_))
  exact wpAny_pure (wpAny_pure h)
theorem ba_setitem {a : Addr} {b : List UInt8} {k v : Int} {t u : Tok} {Q : Unit → Shared → Prop} (ho : s.heap.get? a = some (barrObj b)) (hk : 0 ≤ k) (hl : k < b.length) (hv : 0 ≤ v) (hv' : v < 256) (hz : b.length ≤ sizeLine)
    (h : ∀ h', h'.get? a = some (barrObj (b.set k.toNat v.toNat.toUInt8)) → Heap.SameBut a s.heap h' → Q () { s with heap := h' }) :
    wpAny (model prog w) A (setItem (.ref a) (.int k t) (.int v u)) Q E s := by
  have hT : s.TypeIs (.ref a) "bytearray" := ⟨_, ho, rfl⟩
  have hTi : ∀ i t, s.TypeIs (.int i t) "int" := fun i t => typeIs_int s i t
  unfold setItem
  try with_reducible refine wpAny_holding ?_
  refine wpAny_bind (wpAny_sequenceKey hT (by decide) ?_)
  refine wpAny_bind (wpAny_callSpecial?_slot (name := Str.ofString "__setitem__") hT ba_slot_setitem
    (wpAny_call_entry ba_slot_setitem hT ba_entry_setitem ?_ (ba_args_setitem _ _ _)))
  have hsz : b.length ≤ 16777216 := by rw [sizeLine_eq] at hz; exact hz
  show wpAny _ _ (Builtin.Bytes.subscript? (.int k t) >>= _) _ _ s
  refine wpAny_bind ?_
  unfold Builtin.Bytes.subscript?
  refine wpAny_bind (wpAny_specialOf (hTi _ _) int_index ?_)
  refine wpAny_ite (bm_no Bool.false_ne_true ?_)
  refine wpAny_bind (wpAny_of_eq (rfl : asIndex (.int k t) = pure k) ?_)
  refine wpAny_ite (bm_no (by simp [Builtin.Bytes.fitsIndex]; omega) ?_)
  refine wpAny_pure ?_
  show wpAny _ _ (Builtin.Bytes.byteValue (.int v u) >>= _) _ _ s
  refine wpAny_bind ?_
  unfold Builtin.Bytes.byteValue
  refine wpAny_bind (wpAny_of_eq (rfl : asIndex (.int v u) = pure v) ?_)
  refine wpAny_ite (bm_no (by simp; omega) ?_)
  refine wpAny_pure ?_
  refine wpAny_bind (ba_payload ho ?_)
  have e : seqIndex? k b.toArray.size = some k.toNat := seqIndex_of hk (by simpa using hl)
  rw [e]
  refine wpAny_bind (ba_write ho (by simpa using hz) fun h' e1 e2 => ?_)
  exact wpAny_pure ⟨_, rfl, wpAny_pure (h h' (by rw [e1]; simp) e2)⟩

theorem ba_bytes {a : Addr} {b : List UInt8} {Q : Value → Shared → Prop} (ho : s.heap.get? a = some (barrObj b)) (hz : b.length ≤ sizeLine) (h : ∀ t k, Q (.bytes b.toArray t) { s with toks := k }) :
    wpAny (model prog w) A (call (.type "bytes") [.ref a]) Q E s := by
  have hT : s.TypeIs (.ref a) "bytearray" := ⟨_, ho, rfl⟩
  refine callType_codes (Q₁ := fun obj s₁ => s₁.TypeIs obj "bytes" ∧ Q obj s₁) F.bm_called (F.bm_typeCall _) F.entry_object_init ?_ fun obj s₁ h₁ => ?_
  · refine codeAny_of_tree ?_
    show wpAny _ A.in1.in1 (do checkBuiltinCall "bytes.__new__" ⟨[.type "bytes", .ref a], []⟩; again (.builtin "bytes.__new__" ⟨[.type "bytes", .ref a], []⟩)) _ _ s
    refine wpAny_bind (wpAny_of_eq (F.bm_newCall _) (wpAny_pure ⟨plainId_quiet F.bm_plain _, codeAny_builtin F.bm_entry ?_⟩))
    rw [Around.under_plainId F.bm_plain _]
    unfold Builtin.«bytes.__new__»
    refine wpAny_bind (wpAny_of_eq (a := true) rfl ?_)
    refine bm_if_false rfl ?_
    refine wpAny_bind (wpAny_of_eq F.bm_sub ?_)
    refine bm_if_false rfl ?_
    refine wpAny_bind (wpAny_of_eq (F.bm_bind _) ?_)
    refine wpAny_bind (wpAny_of_eq (a := ()) rfl ?_)
    refine wpAny_bind (wpAny_of_eq (a := ()) rfl ?_)
    refine bm_if_false rfl ?_
    refine wpAny_bind (wpAny_specialOf hT ba_no_bytes ?_)
    refine wpAny_bind (wpAny_bind ?_)
    show wpAny _ _ (load a >>= _) _ _ _
    refine wpAny_bind (wpAny_load ho ?_)
    refine wpAny_pure (wpAny_pure ?_)
    refine bm_if_false rfl ?_
    refine wpAny_bind (wpAny_specialOf hT ba_no_index ?_)
    refine bm_if_true rfl ?_
    first
      | show wpAny _ _ (Builtin.Bytes.buffer? "bytes.__new__" (.ref a) true >>= _) _ _ _
      | (refine wpAny_bind ?_; show wpAny _ _ (Builtin.Bytes.buffer? "bytes.__new__" (.ref a) true >>= _) _ _ _)
    refine wpAny_bind ?_
    unfold Builtin.Bytes.buffer?
    refine wpAny_bind (wpAny_specialOf hT ba_buffer ?_)
    show wpAny _ _ (Builtin.Bytes.slotIsOwn (.ref a) "__buffer__" >>= _) _ _ _
    refine wpAny_bind ?_
    unfold Builtin.Bytes.slotIsOwn
    refine wpAny_bind (wpAny_specialOf hT ba_buffer ?_)
    show wpAny _ _ (if (!("bytearray.__buffer__" : String).endsWith ("." ++ "__buffer__")) = true then _ else _) _ _ _
    rw [ba_buf1, if_neg Bool.false_ne_true]
    rw [show (String.dropRight "bytearray.__buffer__" ("__buffer__".length + 1) : String) = "bytearray" from by decide +kernel]
    refine wpAny_isInstance (T := "bytearray") (b := true) hT ba_sub ?_
    refine wpAny_ite (bm_no Bool.false_ne_true ?_)
    refine wpAny_bind (wpAny_specialOf hT ba_buffer ?_)
    show wpAny _ _ (Builtin.Bytes.ownRelease (.ref a) >>= _) _ _ _
    refine wpAny_bind (ba_own ho ?_)
    refine wpAny_ite (bm_no Bool.false_ne_true ?_)
    refine wpAny_bind (ba_payload ho (wpAny_pure ?_))
    refine wpAny_bind (wpAny_rule (wpAny_bind (wpAny_mkBytes ?_ (by simpa using hz))))
    show wpAny _ _ (if (Value.type "bytes" == Value.type "bytes") = true then _ else _) _ _ _
    refine bm_if_true (by decide) ?_
    exact wpAny_pure ⟨typeIs_bytes _ _ _, h _ _⟩
  · exact ⟨h₁.1, F.args_object_init_2 obj _, object_init_meets F.bm_called.init.lookup F.bm_called.made (by decide) prog w A.in1 _ s₁ ⟨h₁.1, rfl, h₁.2⟩⟩
end
end Mine
end
section
open PySem PySem.W PyProof.Rows
open Sem (wp)
set_option Elab.async false
set_option maxRecDepth 100000
set_option linter.unusedVariables false
namespace Mine
section
variable {prog : Program} {w : World} {A : Around} {E : Value → Shared → Prop} {s : Shared} {g : Fz} {n : Nat}

theorem lb_hint {b : Array UInt8} {t : Tok} {Q : Bool → Shared → Prop} (hz : b.size ≤ sizeLine) (h : ∀ r k, Q r { s with toks := k }) : wpAny (model prog w) A (Builtin.List.listLengthHint (.bytes b t)) Q E s := by
  have hz' : b.size ≤ 16777216 := by rw [sizeLine_eq] at hz; exact hz
  unfold Builtin.List.listLengthHint
  refine wpAny_bind (wpAny_specialOf (typeIs_bytes s b t) FB.slot_bytes_len.lookup ?_)
  generalize hid : ("bytes.__len__" : String) = id0
  wp_delta
  rw [show splitId id0 = some ("bytes", "__len__") from by subst hid; decide +kernel]
  subst hid
  refine wpAny_bind (wpAny_isInstance (T := "bytes") (b := true) (typeIs_bytes s b t) (by rw [isSubtype_type]; kernel_rfl) ?_)
  refine wpAny_ite_split (fun hab => absurd hab (by decide)) (fun _ => ?_)
  refine wpAny_ite_split (fun _ => ?_) (fun hab => absurd (by decide +kernel) hab)
  refine wpAny_bind (wpAny_typeOf (typeIs_bytes s b t) ?_)
  exact wpAny_pure (h _ _)

theorem lb_extend {R : Result → Shared → Prop} {b : Array UInt8} {t : Tok} (hh : A.handled = none) (hz : b.size ≤ sizeLine) (S : Addr) (res : Value) (c₀ : Nat) (hS : s.heap.get? S = some { cls := .type "list", data := .seq #[] c₀ })
    (hR : ∀ h' tk acc' c', (∀ b o, b ≠ S → s.heap.get? b = some o → h'.get? b = some o) → h'.get? S = some { cls := .type "list", dict := none, data := .seq acc' c', slots := #[] } →
      ItemsOf (fun i v => ∃ c u, b[i]? = some c ∧ v = .int (c.toNat : Int) u) acc' b.size → R (.ok (.ret res)) { s with heap := h', toks := tk }) :
    wpAny (model prog w) A.in1 (Builtin.List.listExtendWith (.ref S) (.bytes b t) res)
      (fun fin s' => match fin with | .done f => R (.ok f) s' | .again c' => c'.quiet = true ∧ codeAny (model prog w) A c' R s') (fun e s' => R (.error e) s') s := by
  have hSlt : S < s.heap.objs.size := Heap.lt_size hS
  have hSI : S ≠ s.heap.objs.size := Nat.ne_of_lt hSlt
  have hSf : S ∉ [s.heap.objs.size] := fun hm => hSI (List.mem_singleton.mp hm)
  have W := (KBw.walks (prog := prog) (w := w) (A := A.in1) hh s.heap.objs.size b t).toS
  have key : ∀ (h : Heap) (c₁ tk : Nat), KBw.IsBytesIter h s.heap.objs.size b t 0 → (∀ b o, b ≠ S → s.heap.get? b = some o → h.get? b = some o) →
      h.get? S = some { cls := .type "list", data := .seq #[] c₁ } → codeAny (model prog w) A (.builtin "list.extend.loop" ⟨[.ref S, .ref s.heap.objs.size, res], []⟩) R { s with heap := h, toks := tk } := by
    intro h c₁ tk hit hk hS₁
    refine codeAny_extend_loopS W hz S hSf res b.size 0 _ #[] c₁ rfl (Nat.zero_le _) hit hS₁ (ItemsOf.nil _) fun s' acc' c' hm hS' hacc => ?_
    rw [Moved.eq_with hm]
    refine hR s'.heap s'.toks acc' c' (fun b o hb e => hm.heap b o (fun hmem => ?_) (hk b o hb e)) hS' hacc
    rcases List.mem_cons.mp hmem with e' | hmem
    · exact hb e'
    · exact absurd (Heap.lt_size e) (by rw [List.mem_singleton.mp hmem]; exact Nat.lt_irrefl _)
  unfold Builtin.List.listExtendWith
  refine wpAny_bind (wpAny_typeOf (T := "bytes") (typeIs_bytes s b t) ?_)
  have h1 : Builtin.List.listSameRef (.ref S) (.bytes b t) = false := rfl
  have h2 : (Value.type "bytes" == Value.type "list") = false := by decide
  have h3 : (Value.type "bytes" == Value.type "tuple") = false := by decide
  simp only [h1, h2, h3, Bool.or_false, Bool.false_eq_true, if_false]
  refine wpAny_bind (KBw.pyIter_bytes ?_)
  refine wpAny_bind (wpAny_holding (lb_hint hz fun r k => ?_))
  have hit₁ : KBw.IsBytesIter (s.heap.push { cls := .type "bytes_iterator", data := .fields #[.bytes b t, .int 0 0] }) s.heap.objs.size b t 0 := ⟨_, Heap.get?_push_size _ rfl, rfl, rfl⟩
  have hS₁ := Heap.get?_push_of_some { cls := .type "bytes_iterator", data := .fields #[.bytes b t, .int 0 0] } hS
  refine wpAny_ite_split (fun _ => ?_) (fun _ => wpAny_pure ⟨plainId_quiet F.plain_extend_loop _, key _ c₀ _ hit₁ (fun b o _ e => Heap.get?_push_of_some _ e) hS₁⟩)
  refine wpAny_bind (wpAny_rule ?_)
  refine wpAny_bind ?_
  show wpAny _ _ (updateSeq S (·.push .none) >>= fun _ => updateSeq S (·.pop)) _ _ _
  refine wpAny_bind (wpAny_updateSeq hS₁ rfl ?_)
  have hS₂ := Heap.get?_update_self (Obj.mapSeq (·.push Value.none)) hS₁ rfl
  refine wpAny_updateSeq (hz := by seq_fits) hS₂ rfl ?_
  have hS₃ := Heap.get?_update_self (Obj.mapSeq (·.pop)) hS₂ rfl
  refine wpAny_pure ⟨plainId_quiet F.plain_extend_loop _, key _ _ _ ?_ (fun b o hb e => ?_) hS₃⟩
  · obtain ⟨o, ho, r⟩ := hit₁
    exact ⟨o, (Heap.get?_update_other _ _ hSI).trans ((Heap.get?_update_other _ _ hSI).trans ho), r⟩
  · exact (Heap.get?_update_other _ _ (Ne.symm hb)).trans ((Heap.get?_update_other _ _ (Ne.symm hb)).trans (Heap.get?_push_of_some _ e))

theorem lb_init {R : Result → Shared → Prop} {b : Array UInt8} {t : Tok} (hh : A.handled = none) (hz : b.size ≤ sizeLine) (S : Addr) (hS : s.heap.get? S = some { cls := .type "list", data := .seq #[] })
    (hR : ∀ h' tk acc' c', (∀ b o, b ≠ S → s.heap.get? b = some o → h'.get? b = some o) → h'.get? S = some { cls := .type "list", dict := none, data := .seq acc' c', slots := #[] } →
      ItemsOf (fun i v => ∃ c u, b[i]? = some c ∧ v = .int (c.toNat : Int) u) acc' b.size → R (.ok (.ret .none)) { s with heap := h', toks := tk }) :
    wpAny (model prog w) A.in1 (Builtin.«list.__init__» ⟨[.ref S, .bytes b t], []⟩)
      (fun fin s' => match fin with | .done f => R (.ok f) s' | .again c' => c'.quiet = true ∧ codeAny (model prog w) A c' R s') (fun e s' => R (.error e) s') s := by
  show wpAny _ _ (do let old ← Builtin.List.listItems (.ref S); Builtin.List.listUpdate (.ref S) (fun _ => #[]); letGo old.toList.reverse; Builtin.List.listExtendWith (.ref S) (.bytes b t) .none) _ _ s
  refine wpAny_bind ?_
  unfold Builtin.List.listItems
  refine wpAny_bind (wpAny_seqItems hS rfl (wpAny_pure ?_))
  show wpAny _ _ (updateSeq S (fun _ => #[]) >>= fun _ => letGo (#[] : Array Value).toList.reverse >>= fun _ => Builtin.List.listExtendWith (.ref S) (.bytes b t) .none) _ _ s
  refine wpAny_bind (wpAny_updateSeq hS rfl ?_)
  have hS₂ := Heap.get?_update_self (Obj.mapSeq (fun _ => (#[] : Array Value))) hS rfl
  have oth : ∀ b o, b ≠ S → s.heap.get? b = some o → (s.heap.update S (Obj.mapSeq (fun _ => (#[] : Array Value)))).get? b = some o :=
    fun b o hb e => (Heap.get?_update_other _ _ (Ne.symm hb)).trans e
  refine wpAny_bind (wpAny_letGo ?_)
  refine lb_extend hh hz S .none _ hS₂ fun h' tk acc' c' hk hS' hacc => ?_
  exact hR h' tk acc' c' (fun b o hb e => hk b o hb (oth b o hb e)) hS' hacc

theorem call_list_bytes {Q : Value → Shared → Prop} {b : Array UInt8} {t : Tok} (hh : A.handled = none) (hz : b.size ≤ sizeLine)
    (hQ : ∀ h' tk acc' c', (∀ b o, s.heap.get? b = some o → h'.get? b = some o) →
      h'.get? s.heap.objs.size = some { cls := .type "list", dict := none, data := .seq acc' c', slots := #[] } → ItemsOf (fun i v => ∃ c u, b[i]? = some c ∧ v = .int (c.toNat : Int) u) acc' b.size → Q (.ref s.heap.objs.size) { s with heap := h', toks := tk }) :
    wpAny (model prog w) A (call (.type "list") [.bytes b t]) Q E s := by
  refine callType_codes (Q₁ := fun obj s₁ => obj = .ref s.heap.objs.size ∧ s₁ = { s with heap := s.heap.push { cls := .type "list", data := .seq #[] } }) F.called_list (F.typeCall_list_1 _) F.entry_list_init
    (code_list_new _ ⟨rfl, rfl⟩) fun obj s₁ h₁ => ?_
  obtain ⟨rfl, rfl⟩ := h₁
  have hS : (s.heap.push { cls := .type "list", data := .seq #[] }).get? s.heap.objs.size = some { cls := .type "list", data := .seq #[] } := Heap.get?_push_size _ rfl
  refine ⟨⟨_, hS, rfl⟩, F.args_list_init_2 _ _, lb_init (A := A.in1) hh hz _ hS fun h' tk acc' c' hk hS' hacc => ?_⟩
  exact ⟨rfl, hQ h' tk acc' c' (fun b o e => hk b o (Nat.ne_of_lt (Heap.lt_size e)) (Heap.get?_push_of_some _ e)) hS' hacc⟩

theorem list_bytes_ok {b : List UInt8} {v : Value} (hh : A.handled = none) (sb : Sub g s.heap) (r : Rep g (.bytes b) v) (hz : b.length ≤ lim) : wpAny (model prog w) A (call (.type "list") [v]) (Gets s g (.list (bytesInts b))) F0 s := by
  obtain ⟨t, rfl⟩ := rep_bytes r
  refine call_list_bytes hh (by rw [List.size_toArray]; exact lim_le hz) fun h' tk acc' c' hk hS hi => ?_
  have key : ∀ (b : List UInt8) (l : List Value), l.length = b.length → (∀ (j : Nat) (v : Value), l[j]? = some v → ∃ (c : UInt8) (u : Tok), b[j]? = some c ∧ v = .int (c.toNat : Int) u) → Reps g (bytesInts b) l := by
    intro b
    induction b with
    | nil =>
      intro l hl _
      have : l = [] := List.eq_nil_of_length_eq_zero hl
      subst this
      exact Reps.nil
    | cons c b ih =>
      intro l hl hv
      cases l with
      | nil => simp at hl
      | cons v l =>
        obtain ⟨c', u, e1, e2⟩ := hv 0 v rfl
        simp only [List.getElem?_cons_zero, Option.some.injEq] at e1
        subst e1 e2
        exact Reps.cons ⟨u, rfl⟩ (ih l (by simpa using hl) fun j v e => hv (j + 1) v (by simpa using e))
  exact gets_list (vs := acc'.toList) (k := c') sb (key b acc'.toList (by rw [Array.length_toList, hi.1, List.size_toArray]) fun j v e => by
    obtain ⟨c, u, e1, e2⟩ := hi.2 j v (by simpa using e)
    exact ⟨c, u, by simpa using e1, e2⟩) hk hS rfl rfl
end
end Mine
end
section
open PySem PySem.W PyProof.Rows
open Sem (wp)
set_option Elab.async false
set_option maxRecDepth 100000
set_option linter.unusedVariables false
namespace Mine

noncomputable def bval (f : Str) : Option Value :=
  if f = ("len" : Str) then some (.builtin "len")
  else if f = ("range" : Str) then some (.type "range")
  else if f = ("bytes" : Str) then some (.type "bytes")
  else if f = ("list" : Str) then some (.type "list")
  else if f = ("sum" : Str) then some (.builtin "sum")
  else if f = ("abs" : Str) then some (.builtin "abs")
  else if f = ("max" : Str) then some (.builtin "max")
  else if f = ("min" : Str) then some (.builtin "min")
  else if f = ("sorted" : Str) then some (.builtin "sorted")
  else if f = ("int" : Str) then some (.type "int")
  else if f = ("isinstance" : Str) then some (.builtin "isinstance")
  else if f = ("zip" : Str) then some (.type "zip")
  else if f = ("bytearray" : Str) then some (.type "bytearray")
  else none

structure FunAt (HG : Heap) (mg : Str → Option Value) (f : Str) (d : Def) (a : Addr) (o : Obj) (fd : FuncData) : Prop where
  at_ : mg f = some (.ref a)
  obj : HG.get? a = some o
  data : o.data = .func fd
  scope : fd.scope = d.scope
  body : fd.body = .stmts d.body
  glob : fd.globals = mainGlobals
  blt : fd.builtins = builtinsNs
  clo : fd.closure = []
  code : HG.CodeRec fd.code fd.qualname
  bind : ∀ vals : List Value, vals.length = d.params.length → bindArgs fd ⟨vals, []⟩ = pure (d.params.zip vals)
  co : d.scope.isCoroutine = false
  gen : d.scope.isGenerator = false
  kind : d.scope.kind = .function
  params : ∀ x ∈ d.params, d.scope.names.lookup x = some .local ∨ d.scope.names.lookup x = some .cell
  nodup : d.params.Nodup
  nofree : ∀ p ∈ d.scope.names, p.2 ≠ .free
structure Glob (HG : Heap) (fns : Str → Option Def) (mg mb : Str → Option Value) : Prop where
  g : HG.Ns mainGlobals mg
  b : HG.Ns builtinsNs mb
  nl : HG.NoLimit
  bl : ∀ f v, bval f = some v → fns f = none → mg f = none ∧ mb f = some v
  fn : ∀ f d, fns f = some d → ∃ a o fd, FunAt HG mg f d a o fd
  isi : fns ("isinstance" : Str) = none ∧ fns ("bytes" : Str) = none ∧ fns ("zip" : Str) = none ∧ fns ("bytearray" : Str) = none

noncomputable def ClOk (prog : Program) (w : World) (A : Around) (HG : Heap) (mg : Str → Option Value) (cl : CL) : Prop :=
  ∀ {f : Str} {vs : List PV} {p : PV} {vals : List Value} {s : Shared} {g : Fz}, cl f vs = some p → Ext HG s.heap → Sub g s.heap → Reps g vs vals →
    ∃ a o fd, mg f = some (.ref a) ∧ HG.get? a = some o ∧ o.data = .func fd ∧ wpG (model prog w) A (call (.ref a) vals []) (Gets s g p) s

section
variable {prog : Program} {w : World} {A : Around} {s : Shared} {HG : Heap} {B g₀ : Fz} {env : Env} {fm fm' : Fm} {ρ : Str → Value} {s₀ : Shared} {g : Fz} {fns : Str → Option Def} {mg mb : Str → Option Value} {n : Nat}

theorem Gets.trans {s₁ s₂ : Shared} {g₁ : Fz} {p : PV} {v : Value} (G : Grow s g s₁ g₁) (h : Gets s₁ g₁ p v s₂) : Gets s g p v s₂ := let ⟨g', G', r⟩ := h; ⟨g', G.trans G', r⟩
theorem wp_gets {t : Sem Value} {s₁ : Shared} {g₁ : Fz} {p : PV} (G : Grow s g s₁ g₁) (h : wpAny (model prog w) A t (Gets s₁ g₁ p) F0 s₁) : wpAny (model prog w) A t (Gets s g p) F0 s₁ :=
  wpAny_mono h (fun _ _ k => k.trans G) fun _ _ x => x
theorem wpG_gets {t : Sem Value} {s₁ : Shared} {g₁ : Fz} {p : PV} (G : Grow s g s₁ g₁) (h : wpG (model prog w) A t (Gets s₁ g₁ p) s₁) : wpG (model prog w) A t (Gets s g p) s₁ :=
  G_mono h fun _ _ k => k.trans G

theorem glob_kind (X : Inv HG B g₀ env fm ρ s₀ s g) {f : Str} (h : isGlob (fm.kind f) = true) : env.kindOf f = some .globalImplicit := by
  cases q : fm.kind f with
  | none => rw [q] at h; cases h
  | some k =>
    rw [q] at h
    have := X.names f k q
    cases k <;> first | exact this | cases h
theorem name_builtin (Gl : Glob HG fns mg mb) (X : Inv HG B g₀ env fm ρ s₀ s g) {f : Str} {pos : Pos} {v : Value} {Q : Value → Shared → Prop} (hk : isGlob (fm.kind f) = true) (hd : f ≠ ("__debug__" : Str)) (hb : bval f = some v) (hn : fns f = none) (h : Q v s) :
    wpAny (model prog w) A (eval (.Name f pos) env) Q F0 s := by
  obtain ⟨h1, h2⟩ := Gl.bl f v hb hn
  refine Calls.Name_function_global X.kind (glob_kind X hk) (Calls.loadGlobal_builtin (mg := mg) (mb := mb) ?_ h1 ?_ h2 h) (by simpa using hd)
  · rw [X.glob]; exact Gl.g.keeps X.hg
  · rw [X.blt]; exact Gl.b.keeps X.hg
theorem name_global (Gl : Glob HG fns mg mb) (X : Inv HG B g₀ env fm ρ s₀ s g) {f : Str} {pos : Pos} {v : Value} {Q : Value → Shared → Prop} (hk : isGlob (fm.kind f) = true) (hd : f ≠ ("__debug__" : Str)) (hb : mg f = some v) (h : Q v s) :
    wpAny (model prog w) A (eval (.Name f pos) env) Q F0 s := by
  refine Calls.Name_function_global X.kind (glob_kind X hk) (Calls.loadGlobal_global (mg := mg) ?_ hb h) (by simpa using hd)
  rw [X.glob]; exact Gl.g.keeps X.hg

theorem args_ok {ev : EV} (hev : EvOk prog w A HG ev) : ∀ {es : List Expr} {vs : List PV} {s : Shared} {g : Fz}, Inv HG B g₀ env fm ρ s₀ s g → mapO (ev fm) es = some vs →
    Args (model prog w) A env es (fun vals s' => ∃ g', Grow s g s' g' ∧ Reps g' vs vals) s
  | [], vs, s, g, X, h => by
    simp only [mapO, Option.some.injEq] at h
    subst h
    exact ⟨g, Grow.refl X.gs, Reps.nil⟩
  | e :: r, vs, s, g, X, h => by
    obtain ⟨v, t, hv, ht, rfl⟩ := mapO_cons h
    refine G_mono (hev X hv) fun a s₁ h₁ => ?_
    obtain ⟨g₁, G₁, r₁⟩ := h₁
    refine Args.mono (args_ok hev (X.grow G₁) ht) fun vals s' h₂ => ?_
    obtain ⟨g₂, G₂, r₂⟩ := h₂
    exact ⟨g₂, G₁.trans G₂, Reps.cons (Rep.mono G₂.le _ r₁) r₂⟩
theorem evArgs_ok {ev : EV} (hev : EvOk prog w A HG ev) {es : List Expr} {vs : List PV} (X : Inv HG B g₀ env fm ρ s₀ s g) (h : evArgs ev fm es = some vs) :
    es.all noStar = true ∧ Args (model prog w) A env es (fun vals s' => ∃ g', Grow s g s' g' ∧ Reps g' vs vals) s := by
  unfold evArgs at h
  split at h
  · rename_i hs
    exact ⟨hs, args_ok hev X h⟩
  · cases h

theorem behind_not {op : CmpOp} {a b : PV} {c : Bool} (h : cmpop op a b = some c) (r : Expr) : behindInMarks op r = false := by
  have key : (op == CmpOp.In || op == CmpOp.NotIn) = false := by
    cases op with
    | In => cases a <;> cases b <;> cases h
    | NotIn => cases a <;> cases b <;> cases h
    | _ => rfl
  cases r
  case Set es k p =>
    show (k == 0 && (op == CmpOp.In || op == CmpOp.NotIn) && es.all (constantsAlone 8)) = false
    rw [key, Bool.and_false, Bool.false_and]
  all_goals rfl

theorem rep2 {p q : PV} {vals : List Value} (h : Reps g [p, q] vals) : ∃ a b, vals = [a, b] ∧ Rep g p a ∧ Rep g q b := by
  simp only [Reps] at h
  obtain ⟨a, r, rfl, ra, b, r', rfl, rb, rfl⟩ := h
  exact ⟨a, b, rfl, ra, rb⟩
theorem rep1 {p : PV} {vals : List Value} (h : Reps g [p] vals) : ∃ a, vals = [a] ∧ Rep g p a := by
  simp only [Reps] at h
  obtain ⟨a, r, rfl, ra, rfl⟩ := h
  exact ⟨a, rfl, ra⟩

theorem bcall_ok {f : Str} {vs : List PV} {p : PV} {vals : List Value} (ok : AOk A n) (h : bcall f vs = some p) (sb : Sub g s.heap) (r : Reps g vs vals) : ∃ v, bval f = some v ∧ ((∃ T, v = .type T) ∨ ∃ i, v = .builtin i) ∧ wpAny (model prog w) A (call v vals []) (Gets s g p) F0 s := by
  have hh := ok.hh
  unfold bcall at h
  unfold bval
  by_cases c1 : f = ("len" : Str)
  · rw [if_pos c1] at h ⊢
    refine ⟨_, rfl, .inr ⟨_, rfl⟩, ?_⟩
    split at h
    · split at h
      · rename_i hz
        cases h
        obtain ⟨a, rfl, ra⟩ := rep1 r
        exact len_ok sb ra hz
      · cases h
    · split at h
      · rename_i hz
        cases h
        obtain ⟨a, rfl, ra⟩ := rep1 r
        exact len_bytes_ok sb ra hz
      · cases h
    · cases h
  rw [if_neg c1] at h ⊢
  by_cases c2 : f = ("range" : Str)
  · rw [if_pos c2] at h ⊢
    refine ⟨_, rfl, .inl ⟨_, rfl⟩, ?_⟩
    split at h
    · cases h
      obtain ⟨a, rfl, ra⟩ := rep1 r
      obtain ⟨t, rfl⟩ := rep_int ra
      exact call_range_1 (gets_rng sb)
    · cases h
      obtain ⟨a, b, rfl, ra, rb⟩ := rep2 r
      obtain ⟨t, rfl⟩ := rep_int ra
      obtain ⟨u, rfl⟩ := rep_int rb
      exact call_range_2 (gets_rng sb)
    · split at h
      · rename_i hc
        cases h
        simp only [Reps] at r
        obtain ⟨a, r1, rfl, ra, b, r2, rfl, rb, c, r3, rfl, rc, rfl⟩ := r
        obtain ⟨t, rfl⟩ := rep_int ra
        obtain ⟨u, rfl⟩ := rep_int rb
        obtain ⟨v, rfl⟩ := rep_int rc
        exact PySem.call_range_3 hc.1 (gets_rng sb) (.inl (PyProof.noPylong_of_log2 (small_log hc.2)))
      · cases h
    · cases h
  rw [if_neg c2] at h ⊢
  by_cases c3 : f = ("bytes" : Str)
  · rw [if_pos c3] at h ⊢
    refine ⟨_, rfl, .inl ⟨_, rfl⟩, ?_⟩
    split at h
    · split at h
      · rename_i hz
        obtain ⟨b, hb, rfl⟩ := Option.map_eq_some_iff.mp h
        obtain ⟨a, rfl, ra⟩ := rep1 r
        exact bytes_ints_ok hh sb ra hb hz
      · cases h
    · split at h
      · rename_i hz
        cases h
        obtain ⟨a, rfl, ra⟩ := rep1 r
        simp only [Rep] at ra
        obtain ⟨l, rfl, hl⟩ := ra
        exact ba_bytes (sb _ _ hl) (lim_le hz) fun t k => gets_bytes sb rfl
      · cases h
    · cases h
  rw [if_neg c3] at h ⊢
  by_cases c4 : f = ("list" : Str)
  · rw [if_pos c4] at h ⊢
    refine ⟨_, rfl, .inl ⟨_, rfl⟩, ?_⟩
    split at h
    · split at h
      · rename_i hz
        cases h
        obtain ⟨a, rfl, ra⟩ := rep1 r
        exact list_bytes_ok hh sb ra hz
      · cases h
    · cases h
  rw [if_neg c4] at h ⊢
  by_cases c5 : f = ("sum" : Str)
  · rw [if_pos c5] at h ⊢
    refine ⟨_, rfl, .inr ⟨_, rfl⟩, ?_⟩
    split at h
    · split at h
      · obtain ⟨is, hi, rfl⟩ := Option.map_eq_some_iff.mp h
        obtain ⟨a, rfl, ra⟩ := rep1 r
        exact sum_ok hh sb ra hi
      · cases h
    · cases h
  rw [if_neg c5] at h ⊢
  by_cases c6 : f = ("abs" : Str)
  · rw [if_pos c6] at h ⊢
    refine ⟨_, rfl, .inr ⟨_, rfl⟩, ?_⟩
    split at h
    · cases h
      obtain ⟨a, rfl, ra⟩ := rep1 r
      exact abs_ok sb ra
    · cases h
  rw [if_neg c6] at h ⊢
  by_cases c7 : f = ("max" : Str)
  · rw [if_pos c7] at h ⊢
    refine ⟨_, rfl, .inr ⟨_, rfl⟩, ?_⟩
    split at h
    · cases h
      obtain ⟨a, b, rfl, ra, rb⟩ := rep2 r
      exact max2_ok hh sb ra rb
    · split at h
      · obtain ⟨m, hm, rfl⟩ := Option.map_eq_some_iff.mp h
        obtain ⟨is, hi, hm⟩ := Option.bind_eq_some_iff.mp hm
        obtain ⟨a, rfl, ra⟩ := rep1 r
        exact maxL_ok hh sb ra hi hm
      · cases h
    · cases h
  rw [if_neg c7] at h ⊢
  by_cases c8 : f = ("min" : Str)
  · rw [if_pos c8] at h ⊢
    refine ⟨_, rfl, .inr ⟨_, rfl⟩, ?_⟩
    split at h
    · cases h
      obtain ⟨a, b, rfl, ra, rb⟩ := rep2 r
      exact min2_ok hh sb ra rb
    · split at h
      · obtain ⟨m, hm, rfl⟩ := Option.map_eq_some_iff.mp h
        obtain ⟨is, hi, hm⟩ := Option.bind_eq_some_iff.mp hm
        obtain ⟨a, rfl, ra⟩ := rep1 r
        exact minL_ok hh sb ra hi hm
      · cases h
    · cases h
  rw [if_neg c8] at h ⊢
  by_cases c9 : f = ("sorted" : Str)
  · rw [if_pos c9] at h ⊢
    refine ⟨_, rfl, .inr ⟨_, rfl⟩, ?_⟩
    split at h
    · split at h
      · rename_i hz
        obtain ⟨is, hi, rfl⟩ := Option.map_eq_some_iff.mp h
        obtain ⟨a, rfl, ra⟩ := rep1 r
        exact sorted_ok sb ra hi hz
      · cases h
    · cases h
  rw [if_neg c9] at h ⊢
  by_cases c10 : f = ("int" : Str)
  · rw [if_pos c10] at h ⊢
    refine ⟨_, rfl, .inl ⟨_, rfl⟩, ?_⟩
    split at h
    · cases h
      obtain ⟨a, rfl, ra⟩ := rep1 r
      obtain ⟨t, rfl⟩ := rep_int ra
      exact call_int_int (gets_int sb)
    · cases h
  rw [if_neg c10] at h
  cases h
end
end Mine
end
section
open PySem PySem.W PyProof.Rows
open Sem (wp)
set_option Elab.async false
set_option maxRecDepth 100000
set_option linter.unusedVariables false
namespace Mine

section
variable {prog : Program} {w : World} {A : Around} {s : Shared} {HG : Heap} {B g₀ : Fz} {env : Env} {fm fm' : Fm} {ρ : Str → Value} {s₀ : Shared} {g : Fz} {fns : Str → Option Def} {mg mb : Str → Option Value} {n : Nat}

theorem rep_bool {b : Bool} {v : Value} (r : Rep g (.bool b) v) : v = .bool b := by simpa only [Rep] using r
theorem gets_tup {ps : List PV} {vs : List Value} {tk : Tok} (sb : Sub g s.heap) (r : Reps g ps vs) :
    Gets s g (.tup ps) (.ref s.heap.objs.size) { s with heap := s.heap.push { cls := .type "tuple", data := .seq vs.toArray }, toks := tk } :=
  gets_of sb ⟨rfl, rfl, rfl⟩ (Ext.push _ _) (by simp only [Rep]; exact ⟨_, vs, rfl, ⟨_, grown_new (get_size _) (Heap.get?_push_size _ rfl), rfl, _, rfl⟩, Reps.mono (grown_le sb) _ r⟩)
theorem opt_ok {ev : EV} (hev : EvOk prog w A HG ev) (X : Inv HG B g₀ env fm ρ s₀ s g) {o : Option Expr} {r : Option Int} (h : optI ev fm o = some r) :
    Opt (model prog w) A env o (fun v s' => ∃ g', Grow s g s' g' ∧ IsPart v r) s := by
  cases o with
  | none =>
    simp only [optI, Option.some.injEq] at h
    subst h
    exact ⟨g, Grow.refl X.gs, .none⟩
  | some e =>
    simp only [optI] at h
    split at h
    · rename_i i hi
      cases h
      refine G_mono (hev X hi) fun v s' h' => ?_
      obtain ⟨g', G, r⟩ := h'
      obtain ⟨t, rfl⟩ := rep_int r
      exact ⟨g', G, .int _ _⟩
    · cases h

theorem list_nil {l : List Expr} (h : l.length ≤ 20 ∧ l ≠ []) : ∃ e r, l = e :: r := by
  cases l with
  | nil => exact absurd rfl h.2
  | cons e r => exact ⟨e, r, rfl⟩

theorem bcall_name {f : Str} {vs : List PV} {p : PV} (h : bcall f vs = some p) : ∃ v, bval f = some v ∧ ((∃ T, v = .type T) ∨ ∃ i, v = .builtin i) := by
  unfold bcall at h
  unfold bval
  by_cases c0 : f = ("len" : Str)
  · rw [if_pos c0]; exact ⟨_, rfl, .inr ⟨_, rfl⟩⟩
  rw [if_neg c0] at h ⊢
  by_cases c1 : f = ("range" : Str)
  · rw [if_pos c1]; exact ⟨_, rfl, .inl ⟨_, rfl⟩⟩
  rw [if_neg c1] at h ⊢
  by_cases c2 : f = ("bytes" : Str)
  · rw [if_pos c2]; exact ⟨_, rfl, .inl ⟨_, rfl⟩⟩
  rw [if_neg c2] at h ⊢
  by_cases c3 : f = ("list" : Str)
  · rw [if_pos c3]; exact ⟨_, rfl, .inl ⟨_, rfl⟩⟩
  rw [if_neg c3] at h ⊢
  by_cases c4 : f = ("sum" : Str)
  · rw [if_pos c4]; exact ⟨_, rfl, .inr ⟨_, rfl⟩⟩
  rw [if_neg c4] at h ⊢
  by_cases c5 : f = ("abs" : Str)
  · rw [if_pos c5]; exact ⟨_, rfl, .inr ⟨_, rfl⟩⟩
  rw [if_neg c5] at h ⊢
  by_cases c6 : f = ("max" : Str)
  · rw [if_pos c6]; exact ⟨_, rfl, .inr ⟨_, rfl⟩⟩
  rw [if_neg c6] at h ⊢
  by_cases c7 : f = ("min" : Str)
  · rw [if_pos c7]; exact ⟨_, rfl, .inr ⟨_, rfl⟩⟩
  rw [if_neg c7] at h ⊢
  by_cases c8 : f = ("sorted" : Str)
  · rw [if_pos c8]; exact ⟨_, rfl, .inr ⟨_, rfl⟩⟩
  rw [if_neg c8] at h ⊢
  by_cases c9 : f = ("int" : Str)
  · rw [if_pos c9]; exact ⟨_, rfl, .inl ⟨_, rfl⟩⟩
  rw [if_neg c9] at h
  cases h
theorem stepE_ok (ok : AOk A n) (Gl : Glob HG fns mg mb) {cl : CL} {ev : EV} {tr : TV} (hcl : ClOk prog w A HG mg cl) (hev : EvOk prog w A HG ev) (htr : TvOk prog w A HG tr) (hit : ItOk prog w A HG ev) :
    EvOk prog w A HG (fun fm e => stepE (fun f => (fns f).isSome) cl ev tr fm e) := by
  intro B g₀ env fm ρ s₀ s g e p X h
  show wpG _ _ _ (Gets s g p) _
  dsimp only at h
  delta stepE at h
  cases e
  case Constant v k pos =>
    cases v
    case int i => cases h; exact G_of (wpAny_Constant_int (gets_int X.gs))
    case bool b => cases h; exact G_of (wpAny_Constant_bool (gets_bool (tk := s.toks) X.gs))
    case none => cases h; exact G_of (wpAny_Constant_none ⟨g, Grow.refl X.gs, by simp only [Rep]⟩)
    case bytes b => cases h; exact G_of (Constant_bytes (gets_bytes X.gs rfl))
    all_goals exact nn h
  case Name x pos =>
    dsimp only at h
    split at h
    · rename_i hl
      split at h
      · rename_i q hq
        cases h
        exact G_of (wpAny_Name (X.load hl.1 hq ⟨g, Grow.refl X.gs, (X.var _ _ hq).2⟩) (by simpa using hl.2))
      · cases h
    · cases h
  case BinOp l op r pos =>
    dsimp only at h
    obtain ⟨a, ha, h⟩ := Option.bind_eq_some_iff.mp h
    obtain ⟨b, hb, h⟩ := Option.bind_eq_some_iff.mp h
    refine X_BinOp (G_mono (hev X ha) fun va s₁ h₁ => ?_)
    obtain ⟨g₁, G₁, r₁⟩ := h₁
    refine G_mono (hev (X.grow G₁) hb) fun vb s₂ h₂ => ?_
    obtain ⟨g₂, G₂, r₂⟩ := h₂
    exact wp_gets (G₁.trans G₂) (binop_ok h G₂.sub (Rep.mono G₂.le _ r₁) r₂)
  case UnaryOp op e pos =>
    cases op
    case USub =>
      dsimp only at h
      split at h
      · rename_i i hi
        cases h
        refine X_UnaryOp (G_mono (hev X hi) fun va s₁ h₁ => ?_)
        obtain ⟨g₁, G₁, r₁⟩ := h₁
        obtain ⟨t, rfl⟩ := rep_int r₁
        exact wp_gets G₁ (PySem.P.neg_int (gets_int G₁.sub))
      · cases h
    case Not =>
      dsimp only at h
      split at h
      · rename_i i hi
        cases h
        refine X_UnaryOp (G_mono (hev X hi) fun va s₁ h₁ => ?_)
        obtain ⟨g₁, G₁, r₁⟩ := h₁
        obtain rfl := rep_bool r₁
        exact wp_gets G₁ (not_value (wpAny_truthy_bool (gets_bool (tk := s₁.toks) G₁.sub)))
      · cases h
    all_goals exact nn h
  case Compare l ops rs pos =>
    cases ops with
    | nil => exact nn h
    | cons op ops =>
      cases ops with
      | cons op2 ops => exact nn h
      | nil =>
        cases rs with
        | nil => exact nn h
        | cons r rs =>
          cases rs with
          | cons r2 rs => exact nn h
          | nil =>
            dsimp only at h
            obtain ⟨a, ha, h⟩ := Option.bind_eq_some_iff.mp h
            obtain ⟨b, hb, h⟩ := Option.bind_eq_some_iff.mp h
            obtain ⟨c, hc, rfl⟩ := Option.map_eq_some_iff.mp h
            refine X_Compare1 (behind_not hc _) (G_mono (hev X ha) fun va s₁ h₁ => ?_)
            obtain ⟨g₁, G₁, r₁⟩ := h₁
            refine G_mono (hev (X.grow G₁) hb) fun vb s₂ h₂ => ?_
            obtain ⟨g₂, G₂, r₂⟩ := h₂
            refine wpAny_mono (cmpop_ok ok hc G₂.sub (Rep.mono G₂.le _ r₁) r₂) (fun v s₃ h₃ => ?_) fun _ _ x => x
            obtain ⟨rfl, rfl⟩ := h₃
            exact ⟨g₂, G₁.trans G₂, by simp only [Rep]⟩
  case BoolOp op es pos =>
    cases es with
    | nil => cases op <;> exact nn h
    | cons a es =>
      cases es with
      | nil => cases op <;> exact nn h
      | cons b es =>
        cases es with
        | cons c es => cases op <;> exact nn h
        | nil =>
          cases op
          case And =>
            dsimp only at h
            split at h
            · rename_i ha
              refine X_And2 (G_mono (hev X ha) fun va s₁ h₁ => ?_)
              obtain ⟨g₁, G₁, r₁⟩ := h₁
              obtain rfl := rep_bool r₁
              exact ⟨_, rfl, wpG_gets G₁ (hev (X.grow G₁) h)⟩
            · rename_i ha
              cases h
              refine X_And2 (G_mono (hev X ha) fun va s₁ h₁ => ?_)
              obtain ⟨g₁, G₁, r₁⟩ := h₁
              obtain rfl := rep_bool r₁
              exact ⟨_, rfl, ⟨g₁, G₁, by simp only [Rep]⟩⟩
            · cases h
          case Or =>
            dsimp only at h
            split at h
            · rename_i ha
              refine X_Or2 (G_mono (hev X ha) fun va s₁ h₁ => ?_)
              obtain ⟨g₁, G₁, r₁⟩ := h₁
              obtain rfl := rep_bool r₁
              exact ⟨_, rfl, wpG_gets G₁ (hev (X.grow G₁) h)⟩
            · rename_i ha
              cases h
              refine X_Or2 (G_mono (hev X ha) fun va s₁ h₁ => ?_)
              obtain ⟨g₁, G₁, r₁⟩ := h₁
              obtain rfl := rep_bool r₁
              exact ⟨_, rfl, ⟨g₁, G₁, by simp only [Rep]⟩⟩
            · cases h
  case IfExp t a b pos =>
    dsimp only at h
    split at h
    · rename_i ht
      refine X_IfExp (G_mono (htr X ht) fun b s₁ h₁ => ?_)
      obtain ⟨rfl, g₁, G₁⟩ := h₁
      exact wpG_gets G₁ (hev (X.grow G₁) h)
    · rename_i ht
      refine X_IfExp (G_mono (htr X ht) fun b s₁ h₁ => ?_)
      obtain ⟨rfl, g₁, G₁⟩ := h₁
      exact wpG_gets G₁ (hev (X.grow G₁) h)
    · cases h
  case List es pos =>
    dsimp only at h
    obtain ⟨vs, hv, h⟩ := Option.bind_eq_some_iff.mp h
    split at h
    · rename_i hz
      cases h
      obtain ⟨hs, ha⟩ := evArgs_ok hev X hv
      refine X_List hs (Args.mono ha fun vals s' h' => ?_)
      obtain ⟨g₁, G₁, r₁⟩ := h'
      exact ⟨by rw [r₁.len]; exact lim_le hz, (gets_push (tk := s'.toks) (k := 0) G₁.sub r₁).trans G₁⟩
    · cases h
  case Tuple es k pos =>
    dsimp only at h
    obtain ⟨vs, hv, h⟩ := Option.bind_eq_some_iff.mp h
    split at h
    · rename_i hz
      cases h
      obtain ⟨hs, ha⟩ := evArgs_ok hev X hv
      refine X_Tuple hs (Args.mono ha fun vals s' h' => ?_)
      obtain ⟨g₁, G₁, r₁⟩ := h'
      exact ⟨by rw [r₁.len]; exact lim_le hz, (gets_tup (tk := s'.toks) G₁.sub r₁).trans G₁⟩
    · cases h
  case Subscript v i pos =>
    have key : ∀ i, notSlice i = true → ((ev fm v).bind fun o => (ev fm i).bind fun k => subscr o k) = some p → wpG (model prog w) A (eval (.Subscript v i pos) env) (Gets s g p) s := by
      intro i hns h
      obtain ⟨o, ho, h⟩ := Option.bind_eq_some_iff.mp h
      obtain ⟨k, hk, h⟩ := Option.bind_eq_some_iff.mp h
      refine X_Subscript hns (G_mono (hev X ho) fun vo s₁ h₁ => ?_)
      obtain ⟨g₁, G₁, r₁⟩ := h₁
      refine G_mono (hev (X.grow G₁) hk) fun vk s₂ h₂ => ?_
      obtain ⟨g₂, G₂, r₂⟩ := h₂
      obtain ⟨T, id, a1, a2, a3⟩ := subOn_ok h G₂.sub (Rep.mono G₂.le _ r₁) r₂
      exact ⟨T, id, a1, a2, wpAny_mono a3 (fun _ _ k => k.trans (G₁.trans G₂)) fun _ _ x => x⟩
    cases i
    case Slice lo hi step p2 =>
      cases step with
      | some e => exact nn h
      | none =>
        dsimp only at h
        obtain ⟨o, ho, h⟩ := Option.bind_eq_some_iff.mp h
        obtain ⟨l, hl, h⟩ := Option.bind_eq_some_iff.mp h
        obtain ⟨u, hu, h⟩ := Option.bind_eq_some_iff.mp h
        refine X_Slice (G_mono (hev X ho) fun vo s₁ h₁ => ?_)
        obtain ⟨g₁, G₁, r₁⟩ := h₁
        refine Opt.mono (opt_ok hev (X.grow G₁) hl) fun vl s₂ h₂ => ?_
        obtain ⟨g₂, G₂, p₂⟩ := h₂
        refine Opt.mono (opt_ok hev ((X.grow G₁).grow G₂) hu) fun vu s₃ h₃ => ?_
        obtain ⟨g₃, G₃, p₃⟩ := h₃
        obtain ⟨T, id, a1, a2, a3⟩ := sliceOn_ok h G₃.sub (Rep.mono G₃.le _ (Rep.mono G₂.le _ r₁)) p₂ p₃
        exact ⟨T, id, a1, a2, wpAny_mono a3 (fun _ _ k => k.trans ((G₁.trans G₂).trans G₃)) fun _ _ x => x⟩
    all_goals exact key _ rfl h
  case Call f es ks pos =>
    cases f
    case Name f fp =>
      cases ks with
      | cons k1 ks => exact nn h
      | nil =>
        dsimp only at h
        split at h
        · rename_i hg
          split at h
          · rename_i hf
            subst hf
            split at h
            · rename_i e b bp
              split at h
              · rename_i hb
                obtain ⟨hb1, hb2, hb3⟩ := hb
                subst hb1
                split at h
                · rename_i bs he
                  cases h
                  refine X_CallName (G_of (name_builtin Gl X hg.1 hg.2 rfl Gl.isi.1 ?_))
                  refine G_callWith_builtin (by simp only [List.all_cons, List.all_nil, Bool.and_true, hb3]; rfl) ?_
                  refine G_mono (hev X he) fun v s₁ h₁ => ?_
                  obtain ⟨g₁, G₁, r₁⟩ := h₁
                  refine G_of (name_builtin Gl (X.grow G₁) hb2 (by decide) rfl Gl.isi.2.1 ?_)
                  exact G_of (wp_gets G₁ (isinst_ok G₁.sub r₁))
                · cases h
              · cases h
            · cases h
          · rename_i hf
            split at h
            · rename_i hlen
              obtain ⟨e, r, rfl⟩ := list_nil hlen
              obtain ⟨vs, hv, h⟩ := Option.bind_eq_some_iff.mp h
              obtain ⟨hs, ha⟩ := evArgs_ok hev X hv
              split at h
              · rename_i hfn
                cases q : fns f with
                | none => simp [q] at hfn
                | some d =>
                  obtain ⟨a, o, fd, F⟩ := Gl.fn f d q
                  refine X_CallName (G_of (name_global Gl X hg.1 hg.2 F.at_ ?_))
                  refine G_callWith_function hs (by have := hlen.1; omega) (Args.mono ha fun vals s' h' => ?_)
                  obtain ⟨g₁, G₁, r₁⟩ := h'
                  have X₁ := X.grow G₁
                  obtain ⟨a', o', fd', e1, e2, e3, k⟩ := hcl h X₁.hg X₁.gs r₁
                  rw [F.at_] at e1; cases e1
                  exact ⟨⟨o, fd, X₁.hg _ _ F.obj, F.data⟩, wpG_gets G₁ k⟩
              · rename_i hfn
                have hn : fns f = none := by
                  cases q : fns f with
                  | none => rfl
                  | some d => simp [q] at hfn
                have key : ∀ {s' g₁ vals}, Sub g₁ s'.heap → Reps g₁ vs vals → ∃ v, bval f = some v ∧ ((∃ T, v = .type T) ∨ ∃ i, v = .builtin i) ∧ wpAny (model prog w) A (call v vals []) (Gets s' g₁ p) F0 s' := fun sb r => bcall_ok ok h sb r
                have some_v : ∃ v, bval f = some v ∧ ((∃ T, v = .type T) ∨ ∃ i, v = .builtin i) := bcall_name h
                obtain ⟨v, hbv, hty⟩ := some_v
                refine X_CallName (G_of (name_builtin Gl X hg.1 hg.2 hbv hn ?_))
                rcases hty with ⟨T, rfl⟩ | ⟨i, rfl⟩
                · refine G_callWith_type hs (Args.mono ha fun vals s' h' => ?_)
                  obtain ⟨g₁, G₁, r₁⟩ := h'
                  obtain ⟨v', b1, _, b3⟩ := key G₁.sub r₁
                  rw [hbv] at b1; cases b1
                  exact G_of (wp_gets G₁ b3)
                · refine G_callWith_builtin (first := []) hs (Args.mono ha fun vals s' h' => ?_)
                  obtain ⟨g₁, G₁, r₁⟩ := h'
                  obtain ⟨v', b1, _, b3⟩ := key G₁.sub r₁
                  rw [hbv] at b1; cases b1
                  exact G_of (wp_gets G₁ b3)
            · cases h
        · cases h
    -- end of join
    all_goals exact nn h
  -- comprehension
  case ListComp elt gens scope pos =>
    dsimp only at h
    obtain ⟨ps, hc, rfl⟩ := Option.map_eq_some_iff.mp h
    exact listcomp_ok ok.hh hev hit X hc
  all_goals exact nn h
end
end Mine
end
section
open PySem PySem.W PyProof.Rows
open Sem (wp)
set_option Elab.async false
set_option maxRecDepth 100000
set_option linter.unusedVariables false
namespace Mine

section
variable {prog : Program} {w : World} {A : Around} {s : Shared} {HG : Heap} {B g₀ : Fz} {env : Env} {fm fm' : Fm} {ρ : Str → Value} {s₀ : Shared} {g : Fz} {fns : Str → Option Def} {mg mb : Str → Option Value} {n : Nat}

theorem items_tup {tgt : Expr} {its : List PV} (h : okItems tgt its = true) : isTupE tgt = true → ∀ p ∈ its, ∃ qs, p = .tup qs := by
  intro t p hp
  unfold okItems at h
  rw [t] at h
  simp only [Bool.not_true, Bool.false_or, List.all_eq_true] at h
  have := h p hp
  cases p <;> first | exact ⟨_, rfl⟩ | cases this
theorem plain_it {tgt : Expr} {p : PV} {its : List PV} {v : Value} {s₁ : Shared} {g₁ : Fz} (hh : A.handled = none) (h : ((some p).bind items).bind (guardI tgt) = some its) (G : Grow s g s₁ g₁) (r : Rep g₁ p v) :
    wpAny (model prog w) A (pyIter v) (fun it s₂ => ∃ g' fp wr St, Begun prog w A tgt its s g it s₂ g' fp wr St) F0 s₁ := by
  obtain ⟨its', h1, h2⟩ := Option.bind_eq_some_iff.mp h
  unfold guardI at h2
  split at h2
  · rename_i hok
    cases h2
    have ht := items_tup hok
    replace h1 : items p = some its := h1
    unfold items at h1
    split at h1
    · split at h1
      · cases h1; exact begun_list hh G r ht
      · cases h1
    · split at h1
      · cases h1; exact begun_tup hh G r ht
      · cases h1
    · split at h1
      · rename_i hc
        cases h1
        exact begun_range hh G r hc.1 hc.2.1 hc.2.2.1 hc.2.2.2.1 hc.2.2.2.2 ht
      · cases h1
    · cases h1
  · cases h2
theorem plain_it' {ev : EV} {tgt e : Expr} {its : List PV} (hh : A.handled = none) (hev : EvOk prog w A HG ev) (X : Inv HG B g₀ env fm ρ s₀ s g) (h : ((ev fm e).bind items).bind (guardI tgt) = some its) :
    wpG (model prog w) A (eval e env) (fun x s₁ => wpAny (model prog w) A (pyIter x) (fun it s₂ => ∃ g' fp wr St, Begun prog w A tgt its s g it s₂ g' fp wr St) F0 s₁) s := by
  cases q : ev fm e with
  | none => rw [q] at h; cases h
  | some p =>
    rw [q] at h
    refine G_mono (hev X q) fun v s₁ h₁ => ?_
    obtain ⟨g₁, G, r⟩ := h₁
    exact plain_it hh h G r

/-- a fresh zip -/
theorem zip_ok {ev : EV} {a b : Expr} {zp pos : Pos} {xs ys : List PV} (hh : A.handled = none) (Gl : Glob HG fns mg mb) (hev : EvOk prog w A HG ev) (X : Inv HG B g₀ env fm ρ s₀ s g) (hg : isGlob (fm.kind ("zip" : Str)) = true) (ha : noStar a = true) (hb : noStar b = true)
    (ea : ev fm a = some (.list xs)) (eb : ev fm b = some (.list ys)) {Q : Value → Shared → Prop}
    (h : ∀ I l1 l2 vs us s₂ g₂, Grow s g s₂ g₂ → ZipAt s₂.heap g₂ I xs ys l1 l2 vs us → (∀ k : Nat, k ≤ 4 → s.heap.get? (I + k) = none ∧ g₂ (I + k) = none) → Q (.ref (I + 4)) s₂) :
    wpG (model prog w) A (eval (.Call (.Name ("zip" : Str) zp) [a, b] [] pos) env) Q s := by
  refine X_CallName (G_of (name_builtin Gl X hg (by decide) rfl Gl.isi.2.2.1 ?_))
  refine G_callWith_type (by simp only [List.all_cons, List.all_nil, Bool.and_true, ha, hb]) ?_
  refine G_mono (hev X ea) fun va s₁ h₁ => ?_
  obtain ⟨g₁, G₁, r₁⟩ := h₁
  refine G_mono (hev (X.grow G₁) eb) fun vb s₂ h₂ => ?_
  obtain ⟨g₂, G₂, r₂⟩ := h₂
  have r₁' := Rep.mono G₂.le _ r₁
  simp only [Rep] at r₁' r₂
  obtain ⟨l1, vs, rfl, q1, t1⟩ := r₁'
  obtain ⟨l2, us, rfl, q2, t2⟩ := r₂
  have G := G₁.trans G₂
  refine G_of (call_zip_2 (tup_of q1 G₂.sub) (tup_of q2 G₂.sub) fun h' e1 e2 e3 e4 e5 e6 e7 => ?_)
  refine h s₂.heap.objs.size l1 l2 vs us _ g₂ (G.trans (ext_grow (tk := s₂.toks) G.sub e7)) ⟨e1, e2, e3, e4, e5, q1, q2, t1, t2⟩ fun k hk => ?_
  have none2 : s₂.heap.get? (s₂.heap.objs.size + k) = none := by
    cases q : s₂.heap.get? (s₂.heap.objs.size + k) with
    | none => rfl
    | some o => exact absurd (Heap.lt_size q) (Nat.not_lt.mpr (Nat.le_add_right _ _))
  refine ⟨?_, ?_⟩
  · cases q : s.heap.get? (s₂.heap.objs.size + k) with
    | none => rfl
    | some o => have := G.ext _ _ q; rw [none2] at this; cases this
  · cases q : g₂ (s₂.heap.objs.size + k) with
    | none => rfl
    | some o => have := G.sub _ _ q; rw [none2] at this; cases this

theorem it_ok {ev : EV} (ok : AOk A n) (Gl : Glob HG fns mg mb) (hev : EvOk prog w A HG ev) : ItOk prog w A HG ev := by
  intro B g₀ env fm ρ s₀ s g tgt e its X h
  have hh := ok.hh
  unfold iterP at h
  split at h
  · rename_i z zp a b pos
    split at h
    · rename_i hz
      subst hz
      split at h
      · rename_i hc
        obtain ⟨ht, hg, ha, hb⟩ := hc
        split at h
        · rename_i xs ys ea eb
          split at h
          · cases h
            refine zip_ok hh Gl hev X hg ha hb ea eb fun I l1 l2 vs us s₂ g₂ G Z off => ?_
            have S := src_zip (prog := prog) (w := w) (A := A) hh ht (fun k hk => (off k hk).2) Z.a1 Z.a2 Z.r1 Z.r2
            have st : (fun i h => IsZip h (I + 4) (I + 2) (I + 3) .none ∧ IsPair h (I + 2) (.ref I) (.ref (I + 1)) ∧ (∃ a b, IsPair h (I + 3) a b) ∧ h.IsListIter I l1 i ∧ h.IsListIter (I + 1) l2 i ∧ h.IsList l1 vs.toArray ∧ h.IsList l2 us.toArray) 0 s₂.heap :=
              ⟨Z.z, Z.ti, ⟨_, _, Z.to⟩, Z.i1, Z.i2, tup_of Z.a1 G.sub, tup_of Z.a2 G.sub⟩
            refine S.self 0 s₂ _ st ⟨g₂, _, _, _, G, S, st, ?_, ?_⟩
            · intro b hb
              simp only [List.mem_cons, List.not_mem_nil, or_false] at hb
              rcases hb with rfl | rfl | rfl | rfl
              · exact off 4 (by decide)
              · exact off 3 (by decide)
              · exact off 0 (by decide)
              · exact off 1 (by decide)
            · intro b hb
              simp only [List.mem_cons, List.not_mem_nil, or_false] at hb
              rcases hb with rfl | rfl | rfl | rfl | rfl | rfl | rfl
              · exact .inl (off 4 (by decide)).1
              · exact .inl (off 2 (by decide)).1
              · exact .inl (off 3 (by decide)).1
              · exact .inl (off 0 (by decide)).1
              · exact .inl (off 1 (by decide)).1
              · obtain ⟨o, e, _⟩ := Z.a1; exact .inr ⟨o, e⟩
              · obtain ⟨o, e, _⟩ := Z.a2; exact .inr ⟨o, e⟩
          · cases h
        · cases h
      · cases h
    · exact plain_it' hh hev X h
  · split at h
    · exact plain_it' hh hev X h
    · cases h

theorem trAnd_ok {tr : TV} (htr : TvOk prog w A HG tr) : ∀ {vs : List Expr} {b : Bool} {s : Shared} {g : Fz}, Inv HG B g₀ env fm ρ s₀ s g → trAnd tr fm vs = some b → wpG (model prog w) A (allTrue .And vs env) (fun b' s' => b' = b ∧ ∃ g', Grow s g s' g') s
  | [], b, s, g, X, h => by
    cases h
    exact G_pure ⟨rfl, g, Grow.refl X.gs⟩
  | e :: r, b, s, g, X, h => by
    rw [arm_allTrue_cons]
    simp only [trAnd] at h
    split at h
    · rename_i ht
      refine G_bind (G_mono (htr X ht) fun b' s₁ h₁ => ?_)
      obtain ⟨rfl, g₁, G₁⟩ := h₁
      refine G_mono (trAnd_ok htr (X.grow G₁) h) fun b'' s₂ h₂ => ?_
      obtain ⟨rfl, g₂, G₂⟩ := h₂
      exact ⟨rfl, g₂, G₁.trans G₂⟩
    · rename_i ht
      cases h
      refine G_bind (G_mono (htr X ht) fun b' s₁ h₁ => ?_)
      obtain ⟨rfl, g₁, G₁⟩ := h₁
      exact G_pure ⟨rfl, g₁, G₁⟩
    · cases h
theorem trOr_ok {tr : TV} (htr : TvOk prog w A HG tr) : ∀ {vs : List Expr} {b : Bool} {s : Shared} {g : Fz}, Inv HG B g₀ env fm ρ s₀ s g → trOr tr fm vs = some b → wpG (model prog w) A (allTrue .Or vs env) (fun b' s' => b' = b ∧ ∃ g', Grow s g s' g') s
  | [], b, s, g, X, h => by
    cases h
    exact G_pure ⟨rfl, g, Grow.refl X.gs⟩
  | e :: r, b, s, g, X, h => by
    rw [arm_allTrue_cons]
    simp only [trOr] at h
    split at h
    · rename_i ht
      refine G_bind (G_mono (htr X ht) fun b' s₁ h₁ => ?_)
      obtain ⟨rfl, g₁, G₁⟩ := h₁
      refine G_mono (trOr_ok htr (X.grow G₁) h) fun b'' s₂ h₂ => ?_
      obtain ⟨rfl, g₂, G₂⟩ := h₂
      exact ⟨rfl, g₂, G₁.trans G₂⟩
    · rename_i ht
      cases h
      refine G_bind (G_mono (htr X ht) fun b' s₁ h₁ => ?_)
      obtain ⟨rfl, g₁, G₁⟩ := h₁
      exact G_pure ⟨rfl, g₁, G₁⟩
    · cases h
theorem isTrue_cmp {l r : Expr} {op : CmpOp} {pos : Pos} {whole : Sem Value} : isTrue (.Compare l [op] [r] pos) env whole = (eval (.Compare l [op] [r] pos) env >>= fun c => holding [c] (truthy c)) := by
  rw [isTrue_Compare1, eval_Compare1]
  simp only [bind_assoc]
theorem stepT_ok {ev : EV} {tr : TV} (ok : AOk A n) (hev : EvOk prog w A HG ev) (htr : TvOk prog w A HG tr) : TvOk prog w A HG (stepT ev tr) := by
  intro B g₀ env fm ρ s₀ s g e b X h
  delta stepT at h
  cases e
  case UnaryOp op e pos =>
    cases op
    case Not =>
      dsimp only at h
      obtain ⟨c, hc, rfl⟩ := Option.map_eq_some_iff.mp h
      refine T_Not (G_mono (htr X hc) fun b s₁ h₁ => ?_)
      obtain ⟨rfl, r⟩ := h₁
      exact ⟨rfl, r⟩
    all_goals exact nn h
  case BoolOp op es pos =>
    cases op
    case And =>
      dsimp only at h
      rw [arm_isTrue_BoolOp]
      exact trAnd_ok htr X h
    case Or =>
      dsimp only at h
      rw [arm_isTrue_BoolOp]
      exact trOr_ok htr X h
  case Compare l ops rs pos =>
    cases ops with
    | nil => exact nn h
    | cons op ops =>
      cases ops with
      | cons op2 ops => exact nn h
      | nil =>
        cases rs with
        | nil => exact nn h
        | cons r rs =>
          cases rs with
          | cons r2 rs => exact nn h
          | nil =>
            dsimp only at h
            split at h
            · rename_i hb
              cases h
              rw [isTrue_cmp]
              refine G_bind (G_mono (hev X hb) fun v s₁ h₁ => ?_)
              obtain ⟨g₁, G₁, r⟩ := h₁
              obtain rfl := rep_bool r
              exact G_holding (G_of (wpAny_truthy_bool ⟨rfl, g₁, G₁⟩))
            · cases h
  case Call f es ks pos =>
    dsimp only at h
    split at h
    · rename_i hb
      cases h
      refine T_value rfl (G_mono (hev X hb) fun v s₁ h₁ => ?_)
      obtain ⟨g₁, G₁, r⟩ := h₁
      exact ⟨_, rep_bool r, rfl, g₁, G₁⟩
    · cases h
  all_goals exact nn h
end
end Mine
end
section
open PySem PySem.W PyProof.Rows
open Sem (wp)
set_option Elab.async false
set_option maxRecDepth 100000
set_option linter.unusedVariables false
namespace Mine

section
variable {prog : Program} {w : World} {A : Around} {s : Shared} {HG : Heap} {B g₀ : Fz} {env : Env} {fm fm' : Fm} {ρ : Str → Value} {s₀ : Shared} {g : Fz} {fns : Str → Option Def} {mg mb : Str → Option Value} {n : Nat}

theorem evz_ok {ev : EV} {e : Expr} {p : PV} (hev : EvOk prog w A HG ev) (X : Inv HG B g₀ env fm ρ s₀ s g) (h : evz ev fm e = some (fm', p)) :
    wpG (model prog w) A (eval e env) (fun v s' => ∃ g', Inv HG B g₀ env fm' ρ s₀ s' g' ∧ Rep g' p v) s := by
  unfold evz at h
  split at h
  · rename_i q hq
    cases h
    refine G_mono (hev X hq) fun v s' h' => ?_
    obtain ⟨g', G, r⟩ := h'
    exact ⟨g', X.grow G, r⟩
  · obtain ⟨q, hq, e⟩ := Option.map_eq_some_iff.mp h
    cases e
    obtain ⟨g₁, l, X₁⟩ := X.freeze
    refine G_mono (hev X₁ hq) fun v s' h' => ?_
    obtain ⟨g', G, r⟩ := h'
    exact ⟨g', X₁.grow G, r⟩

theorem getitem_arr {b : List UInt8} {x : Str} (X : Inv HG B g₀ env fm ρ s₀ s g) (hg : fm.get x = some (.arr b)) : ∃ a, ρ x = .ref a ∧ s.heap.get? a = some (barrObj b) := (X.var x _ hg).2

/-- an assignment's plain right side -/
theorem plain_assign {ev : EV} {e : Expr} {x : Str} {px sp : Pos} {q : Fm × PV} {r : Fm × Fl} (hev : EvOk prog w A HG ev) (X : Inv HG B g₀ env fm ρ s₀ s g) (hc : notComp e = true) (h : evz ev fm e = some q) (hs : (q.1.set x (.val q.2)).map (fun fm => (fm, Fl.next)) = some r) :
    wpG (model prog w) A (exec (.Assign [.Name x px] e sp) env) (fun f s' => ∃ ρ' g', Inv HG B g₀ env r.1 ρ' s₀ s' g' ∧ FlRep g' r.2 f) s := by
  obtain ⟨fm₂, h1, rfl⟩ := Option.map_eq_some_iff.mp hs
  refine S_Assign (swaps_not hc) (G_mono (evz_ok hev X h) fun v s₁ h₁ => ?_)
  obtain ⟨g₁, X₁, rv⟩ := h₁
  exact X₁.store h1 (Fit.val rv) fun s' X' => ⟨_, g₁, X', rfl⟩

theorem fresh_fit {e : Ent} {v : Value} {x : Str} {h : Heap} (X : Inv HG B g₀ env fm ρ s₀ s g) (rep : EntRep h g e v) (off : ∀ b, OwnAt e v b → s.heap.get? b = none ∧ g b = none) (ext : Ext s.heap h) : Fit B fm ρ h g x e v := by
  refine ⟨rep, fun b o => ⟨?_, (off b o).2⟩, fun y f b hy hf o o' => ?_⟩
  · cases q : B b with
    | none => rfl
    | some ob => have := X.bs b ob q; rw [(off b o).1] at this; cases this
  · obtain ⟨ob, e⟩ := X.alive (.inr (.inr ⟨y, f, hf, o⟩))
    rw [(off b o').1] at e; cases e

theorem assignV_ok {ev : EV} {e : Expr} {x : Str} {px sp : Pos} {r : Fm × Fl} (ok : AOk A n) (Gl : Glob HG fns mg mb) (hev : EvOk prog w A HG ev) (X : Inv HG B g₀ env fm ρ s₀ s g) (h : assignV ev fm x e = some r) :
    wpG (model prog w) A (exec (.Assign [.Name x px] e sp) env) (fun f s' => ∃ ρ' g', Inv HG B g₀ env r.1 ρ' s₀ s' g' ∧ FlRep g' r.2 f) s := by
  unfold assignV at h
  split at h
  · obtain ⟨fm₂, h1, rfl⟩ := Option.map_eq_some_iff.mp h
    refine S_Assign rfl (X_List rfl ?_)
    refine ⟨Nat.zero_le _, ?_⟩
    have G := ext_grow (tk := s.toks) X.gs (Ext.push s.heap { cls := .type "list", data := .seq ([] : List Value).toArray })
    refine (X.grow G).store h1 (fresh_fit X ⟨s.heap.objs.size, [], rfl, ⟨0, Heap.get?_push_size _ rfl⟩, Reps.nil⟩ (fun b o => ?_) (Ext.push _ _)) fun s' X' => ⟨_, g, X', rfl⟩
    cases o
    refine ⟨get_size _, ?_⟩
    cases q : g s.heap.objs.size with
    | none => rfl
    | some o => have := X.gs _ _ q; rw [get_size] at this; cases this
  · split at h
    · rename_i f fp a pos hf
      subst hf
      split at h
      · rename_i hc
        split at h
        · rename_i k hk
          split at h
          · rename_i hb
            obtain ⟨fm₂, h1, rfl⟩ := Option.map_eq_some_iff.mp h
            refine S_Assign rfl (X_CallName (G_of (name_builtin Gl X hc.1 (by decide) rfl Gl.isi.2.2.2 ?_)))
            refine G_callWith_type (by simp only [List.all_cons, List.all_nil, Bool.and_true, hc.2]) ?_
            refine G_mono (hev X hk) fun v s₁ h₁ => ?_
            obtain ⟨g₁, G₁, r₁⟩ := h₁
            obtain ⟨t, rfl⟩ := rep_int r₁
            have X₁ := X.grow G₁
            refine call_bytearray hb.1 hb.2 fun h' e1 e2 => ?_
            have G := ext_grow (tk := s₁.toks) X₁.gs e2
            refine (X₁.grow G).store h1 (fresh_fit X₁ ⟨s₁.heap.objs.size, rfl, e1⟩ (fun b o => ?_) e2) fun s' X' => ⟨_, g₁, X', rfl⟩
            cases o
            refine ⟨get_size _, ?_⟩
            cases q : g₁ s₁.heap.objs.size with
            | none => rfl
            | some o => have := X₁.gs _ _ q; rw [get_size] at this; cases this
          · cases h
        · cases h
      · cases h
    · obtain ⟨q, hq, hs⟩ := Option.bind_eq_some_iff.mp h
      exact plain_assign hev X rfl hq hs
  · split at h
    · rename_i f fp a b pos hf
      subst hf
      split at h
      · rename_i hc
        split at h
        · rename_i xs ys ea eb
          split at h
          · obtain ⟨fm₂, h1, rfl⟩ := Option.map_eq_some_iff.mp h
            refine S_Assign rfl (zip_ok ok.hh Gl hev X hc.1 hc.2.1 hc.2.2 ea eb fun I l1 l2 vs us s₂ g₂ G Z off => ?_)
            refine (X.grow G).store h1 ?_ fun s' X' => ⟨_, g₂, X', rfl⟩
            have own : ∀ b, OwnAt (.zip xs ys) (.ref (I + 4)) b → ∃ k : Nat, k ≤ 4 ∧ b = I + k := fun b o => by
              obtain ⟨J, e, k⟩ := o
              have e' : I + 4 = J + 4 := by injection e
              have e2 : J = I := (Nat.add_right_cancel e').symm
              subst e2
              rcases k with rfl | rfl | rfl | rfl | rfl
              · exact ⟨0, by decide, rfl⟩
              · exact ⟨1, by decide, rfl⟩
              · exact ⟨2, by decide, rfl⟩
              · exact ⟨3, by decide, rfl⟩
              · exact ⟨4, by decide, rfl⟩
            refine ⟨⟨I, l1, l2, vs, us, rfl, Z⟩, fun b o => ?_, fun y f b hy hf o o' => ?_⟩
            · obtain ⟨k, hk, rfl⟩ := own b o
              refine ⟨?_, (off k hk).2⟩
              cases q : B (I + k) with
              | none => rfl
              | some ob => have := X.bs _ ob q; rw [(off k hk).1] at this; cases this
            · obtain ⟨k, hk, rfl⟩ := own b o'
              obtain ⟨ob, e⟩ := X.alive (.inr (.inr ⟨y, f, hf, o⟩))
              rw [(off k hk).1] at e; cases e
          · cases h
        · cases h
      · cases h
    · obtain ⟨q, hq, hs⟩ := Option.bind_eq_some_iff.mp h
      exact plain_assign hev X rfl hq hs
  · split at h
    · rename_i hc
      obtain ⟨q, hq, hs⟩ := Option.bind_eq_some_iff.mp h
      exact plain_assign hev X hc hq hs
    · cases h

theorem assignC_ok {ev : EV} {elt : Expr} {gens : List Comprehension} {scope : Scope} {pos : Pos} {x : Str} {px sp : Pos} {r : Fm × Fl} (ok : AOk A n) (hev : EvOk prog w A HG ev) (hit : ItOk prog w A HG ev) (X : Inv HG B g₀ env fm ρ s₀ s g) (h : assignC ev fm x elt gens scope = some r) :
    wpG (model prog w) A (exec (.Assign [.Name x px] (.ListComp elt gens scope pos) sp) env) (fun f s' => ∃ ρ' g', Inv HG B g₀ env r.1 ρ' s₀ s' g' ∧ FlRep g' r.2 f) s := by
  have plain : ((comp ev fm elt gens scope).bind fun ps => (fm.set x (.val (.list ps))).map fun fm => (fm, Fl.next)) = some r → wpG (model prog w) A (exec (.Assign [.Name x px] (.ListComp elt gens scope pos) sp) env) (fun f s' => ∃ ρ' g', Inv HG B g₀ env r.1 ρ' s₀ s' g' ∧ FlRep g' r.2 f) s := by
    intro h
    obtain ⟨ps, hc, h⟩ := Option.bind_eq_some_iff.mp h
    obtain ⟨fm₂, h1, rfl⟩ := Option.map_eq_some_iff.mp h
    refine G_mono (assigncomp_ok ok.hh hev hit X hc h1) fun f s' h' => ?_
    obtain ⟨rfl, ρ', g', Y⟩ := h'
    exact ⟨ρ', g', Y, rfl⟩
  unfold assignC at h
  split at h
  · split at h
    · rename_i xs ys hp
      split at h
      · rename_i hc
        obtain ⟨c1, c2, c3, c4, c5, c6⟩ := hc
        obtain ⟨ps, hl, h⟩ := Option.bind_eq_some_iff.mp h
        split at h
        · rename_i hz
          obtain ⟨fm₂, h1, rfl⟩ := Option.map_eq_some_iff.mp h
          refine G_mono (assignzip_ok ok.hh hev hit X hp c1 c2 c5 c4 ?_ hl hz h1) fun f s' h' => ?_
          · exact c3
          · obtain ⟨rfl, ρ', g', Y⟩ := h'
            exact ⟨ρ', g', Y, rfl⟩
        · cases h
      · cases h
    · exact plain h
  · exact plain h
end
end Mine
end
section
open PySem PySem.W PyProof.Rows
open Sem (wp)
set_option Elab.async false
set_option maxRecDepth 100000
set_option linter.unusedVariables false
namespace Mine

section
variable {prog : Program} {w : World} {A : Around} {s : Shared} {HG : Heap} {B g₀ : Fz} {env : Env} {fm fm' : Fm} {ρ : Str → Value} {s₀ : Shared} {g : Fz} {fns : Str → Option Def} {mg mb : Str → Option Value} {n : Nat}

theorem iterP_notSet {ev : EV} {tgt e : Expr} {its : List PV} (h : iterP ev tgt fm e = some its) : notSet e = true := by
  unfold iterP at h
  split at h
  · rfl
  · split at h
    · rename_i hn; exact hn
    · cases h
theorem iterz_ok {ev : EV} {tgt e : Expr} {r : Fm × List PV} (hit : ItOk prog w A HG ev) (X : Inv HG B g₀ env fm ρ s₀ s g) (h : iterz ev tgt fm e = some r) : notSet e = true ∧
    ∃ g₁, Inv HG B g₀ env r.1 ρ s₀ s g₁ ∧ wpG (model prog w) A (eval e env) (fun x s₁ => wpAny (model prog w) A (pyIter x) (fun it s₂ => ∃ g' fp wr St, Begun prog w A tgt r.2 s g₁ it s₂ g' fp wr St) F0 s₁) s := by
  unfold iterz at h
  split at h
  · rename_i its hi
    cases h
    exact ⟨iterP_notSet hi, g, X, hit X hi⟩
  · obtain ⟨q, hq, e⟩ := Option.map_eq_some_iff.mp h
    cases e
    obtain ⟨g₁, l, X₁⟩ := X.freeze
    exact ⟨iterP_notSet hq, g₁, X₁, hit X₁ hq⟩

theorem X_append {ev : EV} {x m : Str} {xp ap cp : Pos} {e : Expr} {ps : List PV} {p : PV} (hev : EvOk prog w A HG ev) (X : Inv HG B g₀ env fm ρ s₀ s g) (hl : loadable (fm.kind x) = true) (hd : x ≠ ("__debug__" : Str)) (hm : m = ("append" : Str)) (hs : noStar e = true)
    (hline : (ap.endLine == cp.line) = true) (hx : fm.get x = some (.lst ps)) (he : ev fm e = some p) (hz : ps.length ≤ lim) :
    wpG (model prog w) A (eval (.Call (.Attribute (.Name x xp) m ap) [e] [] cp) env) (fun v s' => v = .none ∧ ∃ g', Inv HG B g₀ env ⟨fm.names, setE fm.vars x (.lst (ps ++ [p]))⟩ ρ s₀ s' g') s := by
  subst hm
  rw [arm_eval_Call]
  have hbase : attributeBase (.Name x xp) ("append" : Str) env (eval (.Name x xp) env) = eval (.Name x xp) env := rfl
  rw [hbase]
  refine G_bind (G_of (wpAny_Name (X.load hl hx ?_) (by simpa using hd)))
  refine G_stand ?_
  obtain ⟨a, vs, ea, ⟨k, ho⟩, rs⟩ := (X.var x _ hx).2
  rw [ea]
  have fin : wpG (model prog w) A (callWith cp (.builtin "list.append") [.ref a] (backTo cp (starEach [e] env)) []) (fun v s' => v = .none ∧ ∃ g', Inv HG B g₀ env ⟨fm.names, setE fm.vars x (.lst (ps ++ [p]))⟩ ρ s₀ s' g') s := by
    refine G_callWith_builtin (by simp only [List.all_cons, List.all_nil, Bool.and_true, hs]) ?_
    refine G_mono (hev X he) fun v s₁ h₁ => ?_
    obtain ⟨g₁, G₁, r₁⟩ := h₁
    have X₁ := X.grow G₁
    obtain ⟨a', vs', ea', hl', rs'⟩ := (X₁.var x _ hx).2
    rw [ea] at ea'; cases ea'
    refine G_of (wpAny_list_append_plain hl' (fun h' hp' hs' => ?_) (by rw [List.size_toArray, rs'.len]; exact lim_le hz))
    have own : ∀ ps b, OwnAt (.lst ps) (ρ x) b ↔ b = a := fun ps b => by
      rw [ea]
      exact ⟨fun e => by cases e; rfl, fun e => by rw [e]; rfl⟩
    exact ⟨rfl, g₁, X₁.touch (tk := s₁.toks) hx (own _) (own _) hs' ⟨a, vs' ++ [v], ea, by simpa using hp', Reps.app rs' (Reps.one r₁)⟩⟩
  have hform : methodCallForm (([e] : List Expr).length + ([] : List Keyword).length) (backTo cp (starEach [e] env)) (backToKw cp (keywordEach [] env)) = true := by
    rw [star_no hs]; rfl
  have hpos : methodCallPos true (.Name x xp) env ap cp = pure cp := by unfold methodCallPos; simp [hline]
  unfold methodCall
  rw [hform]
  refine G_bind (G_holding (G_of (Calls.getMethod_list_append ho rfl rfl ?_)))
  exact G_bind (G_eq hpos (G_pure fin))

/-- one statement -/
theorem stepS_ok {ev : EV} {tr : TV} {ex : XV} {k : Nat} {st : Stmt} {r : Fm × Fl} (ok : AOk A n) (Gl : Glob HG fns mg mb) (hev : EvOk prog w A HG ev) (htr : TvOk prog w A HG tr) (hex : ExOk prog w A HG ex) (hit : ItOk prog w A HG ev)
    (X : Inv HG B g₀ env fm ρ s₀ s g) (h : stepS ev tr ex k fm st = some r) : wpG (model prog w) A (exec st env) (fun f s' => ∃ ρ' g', Inv HG B g₀ env r.1 ρ' s₀ s' g' ∧ FlRep g' r.2 f) s := by
  delta stepS at h
  cases st
  case Assign ts e pos =>
    cases ts with
    | nil => exact nn h
    | cons tg ts =>
      cases ts with
      | cons t2 ts => cases tg <;> first | exact nn h | (rename_i v i _; cases v <;> exact nn h)
      | nil =>
        cases tg
        case Name x xp =>
          cases e
          case ListComp elt gens sc cp => exact assignC_ok ok hev hit X h
          all_goals exact assignV_ok ok Gl hev X h
        case Subscript v i sp =>
          cases v
          case Name x xp =>
            dsimp only at h
            split at h
            · rename_i hc
              split at h
              · rename_i b v k hx he hi
                split at h
                · rename_i hb
                  cases h
                  refine S_AssignSub (swaps_not hc.2.2) (G_mono (hev X he) fun va s₁ h₁ => ?_)
                  obtain ⟨g₁, G₁, r₁⟩ := h₁
                  obtain ⟨t, rfl⟩ := rep_int r₁
                  have X₁ := X.grow G₁
                  refine G_of (wpAny_Name (X₁.load hc.1 hx ?_) (by simpa using hc.2.1))
                  refine G_mono (hev X₁ hi) fun vi s₂ h₂ => ?_
                  obtain ⟨g₂, G₂, r₂⟩ := h₂
                  obtain ⟨u, rfl⟩ := rep_int r₂
                  have X₂ := X₁.grow G₂
                  obtain ⟨a, ea, ho⟩ := getitem_arr X₂ hx
                  rw [ea]
                  refine ba_setitem ho hb.2.2.1 hb.2.2.2.1 hb.1 hb.2.1 (lim_le hb.2.2.2.2) fun h' e1 e2 => ?_
                  have own : ∀ c b, OwnAt (.arr c) (ρ _) b ↔ b = a := fun c b => by
                    rw [ea]
                    exact ⟨fun e => by cases e; rfl, fun e => by rw [e]; rfl⟩
                  exact ⟨ρ, g₂, X₂.touch (tk := s₂.toks) hx (own _) (own _) e2 ⟨a, ea, e1⟩, rfl⟩
                · cases h
              · cases h
            · cases h
          all_goals exact nn h
        all_goals exact nn h
  case AugAssign tg op e sp =>
    cases tg
    case Name x xp =>
      dsimp only at h
      split at h
      · rename_i hl
        split at h
        · rename_i a hx
          split at h
          · rename_i b hb
            have main : ∀ r', binop op (.int a) (.int b) = some (.int r') → (∀ t u (s₂ : Shared) Q, (∀ tk tt, Q (.int r' tt) { s₂ with toks := tk }) → wpAny (model prog w) A (inplaceOp op (.int a t) (.int b u)) Q F0 s₂) →
                ((binop op (.int a) (.int b)).bind fun r => (fm.set x (.val r)).map fun fm => (fm, Fl.next)) = some r →
                wpG (model prog w) A (exec (.AugAssign (.Name x xp) op e sp) env) (fun f s' => ∃ ρ' g', Inv HG B g₀ env r.1 ρ' s₀ s' g' ∧ FlRep g' r.2 f) s := by
              intro r' hr hop h
              rw [hr] at h
              obtain ⟨fm₂, h1, rfl⟩ := Option.map_eq_some_iff.mp h
              refine S_Aug (X.load hl hx ?_)
              obtain ⟨t, et⟩ := rep_int (g := g) (X.var x _ hx).2
              rw [et]
              refine G_mono (hev X hb) fun va s₁ h₁ => ?_
              obtain ⟨g₁, G₁, r₁⟩ := h₁
              obtain ⟨u, rfl⟩ := rep_int r₁
              refine hop t u s₁ _ fun tk tt => ?_
              have G := ext_grow (tk := tk) G₁.sub (Ext.refl s₁.heap)
              exact ((X.grow G₁).grow G).store h1 (Fit.val ⟨tt, rfl⟩) fun s' X' => ⟨_, g₁, X', rfl⟩
            split at h
            · exact main _ rfl (fun t u s₂ Q hQ => PySem.P.iadd_int (hQ _ _)) h
            · exact main _ rfl (fun t u s₂ Q hQ => PySem.P.isub_int (hQ _ _)) h
            · by_cases hc : b ≠ 0 ∧ smallI b = true
              · exact main (a.fdiv b) (by show (if b ≠ 0 ∧ smallI b = true then some (PV.int (a.fdiv b)) else none) = _; rw [if_pos hc]) (fun t u s₂ Q hQ => PyProof.Rows.ifloordiv_int hc.1 (hQ _ _) (.inl (PyProof.noPylong_of_log2 (small_log hc.2)))) h
              · rw [show binop .FloorDiv (.int a) (.int b) = none from (by show (if b ≠ 0 ∧ smallI b = true then some (PV.int (a.fdiv b)) else none) = _; rw [if_neg hc])] at h
                cases h
            · cases h
          · cases h
        · cases h
      · cases h
    all_goals exact nn h
  case Expr e ep =>
    cases e
    case Call f es ks cp =>
      cases f
      case Attribute v m ap =>
        cases v
        case Name x xp =>
          cases es with
          | nil => exact nn h
          | cons e es =>
            cases es with
            | cons e2 es => exact nn h
            | nil =>
              cases ks with
              | cons k1 ks => exact nn h
              | nil =>
                dsimp only at h
                split at h
                · rename_i hc
                  split at h
                  · rename_i ps p hx he
                    split at h
                    · rename_i hz
                      cases h
                      refine S_Expr X.kind rfl (G_mono (X_append hev X hc.1 hc.2.1 hc.2.2.1 hc.2.2.2.1 hc.2.2.2.2 hx he hz) fun v s' h' => ?_)
                      obtain ⟨rfl, g', Y⟩ := h'
                      exact ⟨rfl, ρ, g', Y, rfl⟩
                    · cases h
                  · cases h
                · cases h
        all_goals exact nn h
      all_goals exact nn h
    all_goals exact nn h
  case For tgt it body els pos =>
    cases els with
    | cons s1 els => exact nn h
    | nil =>
      dsimp only at h
      obtain ⟨q, hq, h⟩ := Option.bind_eq_some_iff.mp h
      obtain ⟨hn, g₁, X₁, hrun⟩ := iterz_ok hit X hq
      refine S_For hn (G_mono hrun fun x s₁ h₁ => wpAny_mono h₁ (fun it s₂ h₂ => ?_) fun _ _ x => x)
      obtain ⟨g', fp, wr, St, b⟩ := h₂
      exact for_ok ok.hh hex q.2 0 q.1 ρ s₂ g' rfl (Nat.zero_le _) b.src (X₁.grow b.grow) b.st (b.off X₁) h
  case While t body els pos =>
    cases els with
    | cons s1 els => exact nn h
    | nil =>
      dsimp only at h
      exact S_While (while_ok hex htr k fm ρ s g X h)
  case If t a b pos =>
    dsimp only at h
    split at h
    · rename_i ht
      refine S_If (G_mono (htr X ht) fun b s₁ h₁ => ?_)
      obtain ⟨rfl, g₁, G₁⟩ := h₁
      exact hex (X.grow G₁) h
    · rename_i ht
      refine S_If (G_mono (htr X ht) fun b s₁ h₁ => ?_)
      obtain ⟨rfl, g₁, G₁⟩ := h₁
      exact hex (X.grow G₁) h
    · cases h
  case Return e pos =>
    cases e with
    | none => exact nn h
    | some e =>
      dsimp only at h
      obtain ⟨q, hq, rfl⟩ := Option.map_eq_some_iff.mp h
      refine S_Return (G_mono (evz_ok hev X hq) fun v s' h' => ?_)
      obtain ⟨g', Y, rv⟩ := h'
      exact ⟨ρ, g', Y, v, rfl, rv⟩
  all_goals exact nn h

theorem stepL_ok {ev : EV} {tr : TV} {ex : XV} {k : Nat} (ok : AOk A n) (Gl : Glob HG fns mg mb) (hev : EvOk prog w A HG ev) (htr : TvOk prog w A HG tr) (hex : ExOk prog w A HG ex) (hit : ItOk prog w A HG ev) :
    ExOk prog w A HG (fun fm b => stepL (stepS ev tr ex k) b fm) := by
  intro B g₀ env fm fm' fl ρ s₀ s g body X h
  dsimp only at h
  induction body generalizing fm ρ s g with
  | nil =>
    simp only [stepL, Option.some.injEq, Prod.mk.injEq] at h
    obtain ⟨rfl, rfl⟩ := h
    exact X_nil ⟨ρ, g, X, rfl⟩
  | cons st rest ih =>
    simp only [stepL] at h
    refine X_cons ?_
    split at h
    · cases h
    · rename_i fm₁ p hs
      cases h
      refine G_mono (stepS_ok ok Gl hev htr hex hit X hs) fun f s' h' => ?_
      obtain ⟨ρ', g', Y, v, rfl, rv⟩ := h'
      exact ⟨ρ', g', Y, v, rfl, rv⟩
    · rename_i fm₁ hs
      refine G_mono (stepS_ok ok Gl hev htr hex hit X hs) fun f s' h' => ?_
      obtain ⟨ρ', g', Y, hf⟩ := h'
      cases hf
      exact ih Y h
end
end Mine
end
section
open PySem PySem.W PyProof.Rows
open Sem (wp)
set_option Elab.async false
set_option maxRecDepth 100000
set_option linter.unusedVariables false
namespace Mine

theorem bindL_other (kindOf : Str → Option NameKind) {x : Str} : ∀ (r : List (Str × Value)) (m : Str → Option Value), (∀ p ∈ r, p.1 ≠ x) → bindL kindOf r m x = m x
  | [], m, _ => rfl
  | (n, v) :: r, m, h => by
    have hn : x ≠ n := Ne.symm (h (n, v) List.mem_cons_self)
    unfold bindL
    rw [bindL_other kindOf r _ fun p hp => h p (List.mem_cons_of_mem _ hp)]
    split
    · exact if_neg hn
    · rfl
theorem bindC_other (kindOf : Str → Option NameKind) {x : Str} : ∀ (r : List (Str × Value)) (m : Str → Option Value), (∀ p ∈ r, p.1 ≠ x) → bindC kindOf r m x = m x
  | [], m, _ => rfl
  | (n, v) :: r, m, h => by
    have hn : x ≠ n := Ne.symm (h (n, v) List.mem_cons_self)
    unfold bindC
    rw [bindC_other kindOf r _ fun p hp => h p (List.mem_cons_of_mem _ hp)]
    split
    · rfl
    · exact if_neg hn
theorem bindL_get (kindOf : Str → Option NameKind) {x : Str} {v : Value} (hk : kindOf x = some .local) : ∀ (r : List (Str × Value)) (m : Str → Option Value), (r.map (·.1)).Nodup → (x, v) ∈ r → bindL kindOf r m x = some v
  | [], m, _, h => (nomatch h)
  | (n, u) :: r, m, nd, h => by
    rw [List.map_cons, List.nodup_cons] at nd
    unfold bindL
    rcases List.mem_cons.mp h with e | h
    · cases e
      rw [bindL_other kindOf r _ fun p hp e => nd.1 (by have := List.mem_map_of_mem (f := (·.1)) hp; rw [e] at this; exact this), if_pos hk]
      exact if_pos rfl
    · exact bindL_get kindOf hk r _ nd.2 h
theorem bindC_get (kindOf : Str → Option NameKind) {x : Str} {v : Value} (hk : kindOf x = some .cell) : ∀ (r : List (Str × Value)) (m : Str → Option Value), (r.map (·.1)).Nodup → (x, v) ∈ r → bindC kindOf r m x = some v
  | [], m, _, h => (nomatch h)
  | (n, u) :: r, m, nd, h => by
    rw [List.map_cons, List.nodup_cons] at nd
    unfold bindC
    rcases List.mem_cons.mp h with e | h
    · cases e
      rw [bindC_other kindOf r _ fun p hp e => nd.1 (by have := List.mem_map_of_mem (f := (·.1)) hp; rw [e] at this; exact this), if_neg (by rw [hk]; decide)]
      exact if_pos rfl
    · exact bindC_get kindOf hk r _ nd.2 h
theorem zip_lookE : ∀ {ps : List Str} {vs : List PV} {vals : List Value} {g : Fz} {x : Str} {e : Ent}, Reps g vs vals → lookE (ps.zip (vs.map Ent.val)) x = some e → ∃ p v, e = .val p ∧ Rep g p v ∧ (x, v) ∈ ps.zip vals
  | [], vs, vals, g, x, e, r, h => by cases h
  | n :: ps, [], vals, g, x, e, r, h => by cases h
  | n :: ps, q :: vs, vals, g, x, e, r, h => by
    simp only [Reps] at r
    obtain ⟨v, r', rfl, rv, rr⟩ := r
    simp only [List.map_cons, List.zip_cons_cons, lookE] at h
    by_cases k : x = n
    · subst k
      rw [if_pos rfl] at h
      cases h
      exact ⟨q, v, rfl, rv, List.mem_cons_self⟩
    · rw [if_neg k] at h
      obtain ⟨p, u, h1, h2, h3⟩ := zip_lookE rr h
      exact ⟨p, u, h1, h2, List.mem_cons_of_mem _ h3⟩
theorem zip_keys : ∀ {ps : List Str} {vals : List Value}, vals.length = ps.length → (ps.zip vals).map (·.1) = ps
  | [], vals, h => by cases vals <;> rfl
  | n :: ps, [], h => by cases h
  | n :: ps, v :: vals, h => by
    simp only [List.zip_cons_cons, List.map_cons]
    rw [zip_keys (by simpa using h)]
theorem nodup_unique : ∀ {r : List (Str × Value)} {x : Str} {u v : Value}, (r.map (·.1)).Nodup → (x, u) ∈ r → (x, v) ∈ r → u = v
  | [], x, u, v, nd, h, k => (nomatch h)
  | (n, w) :: r, x, u, v, nd, h, k => by
    rw [List.map_cons, List.nodup_cons] at nd
    rcases List.mem_cons.mp h with e | h <;> rcases List.mem_cons.mp k with e' | k
    · cases e; cases e'; rfl
    · cases e; exact absurd (List.mem_map_of_mem (f := (·.1)) k) nd.1
    · cases e'; exact absurd (List.mem_map_of_mem (f := (·.1)) h) nd.1
    · exact nodup_unique nd.2 h k

section
variable {prog : Program} {w : World} {A : Around} {s : Shared} {HG : Heap} {B g₀ : Fz} {env : Env} {fm fm' : Fm} {ρ : Str → Value} {s₀ : Shared} {g : Fz} {fns : Str → Option Def} {mg mb : Str → Option Value} {n : Nat}

open Classical in
noncomputable def argAt (ps : List Str) (vals : List Value) (x : Str) : Value := if h : ∃ v, (x, v) ∈ ps.zip vals then h.choose else .none
theorem argAt_eq {ps : List Str} {vals : List Value} {x : Str} {v : Value} (hl : vals.length = ps.length) (nd : ps.Nodup) (h : (x, v) ∈ ps.zip vals) : argAt ps vals x = v := by
  have hx : ∃ v, (x, v) ∈ ps.zip vals := ⟨v, h⟩
  unfold argAt
  rw [dif_pos hx]
  exact nodup_unique (by rw [zip_keys hl]; exact nd) hx.choose_spec h

theorem call_ok {ex : XV} {f : Str} {d : Def} {a : Addr} {o : Obj} {fd : FuncData} {vs : List PV} {p : PV} {vals : List Value} (ok : AOk A (n + 1)) (Gl : Glob HG fns mg mb) (F : FunAt HG mg f d a o fd)
    (hex : ∀ env, ExOk prog w (A.deeper env) HG ex) (h : callD ex d vs = some p) (hx : Ext HG s.heap) (sb : Sub g s.heap) (r : Reps g vs vals) : wpG (model prog w) A (call (.ref a) vals []) (Gets s g p) s := by
  unfold callD at h
  split at h
  · rename_i hlen
    have hl : vals.length = d.params.length := r.len.trans hlen
    have nd : ((d.params.zip vals).map (·.1)).Nodup := by rw [zip_keys hl]; exact F.nodup
    have room : A.depth < recursionLimit := by have := ok.dp; omega
    have nof : ∀ x, d.scope.names.lookup x ≠ some .free := fun x e => F.nofree _ (mem_of_lookup e) rfl
    have keyOf : ∀ x v, (x, v) ∈ d.params.zip vals → x ∈ d.params := fun x v m => (List.of_mem_zip m).1
    obtain ⟨_, _, cex, _⟩ := cells_ok fd.scope.names (s.heap.push { cls := .type "frame", data := .dict #[] }) [] (fun x c e => by simp at e) (fun x y c e => by simp at e)
    rw [Heap.size_push] at cex
    refine G_runValue (C_function room (hx _ _ F.obj) F.data (by rw [F.scope]; exact F.co) (by rw [F.scope]; exact F.gen) F.body (F.code.keeps hx) (F.bind vals hl) ?_)
    rw [F.clo]
    refine wpAny_newFunctionEnv_cells (by rw [F.scope]; exact F.kind) (fun x hm => ?_) fun env he s' x => ?_
    · rcases F.params x.1 (keyOf x.1 x.2 hm) with k | k
      · exact .inl (by rw [F.scope]; exact k)
      · refine .inr ⟨by rw [F.scope]; exact k, ?_⟩
        obtain ⟨c, e, _⟩ := cex x.1 (by rw [F.scope]; exact mem_of_lookup k)
        rw [e]; rfl
    · have hloc : env.locals = s.heap.objs.size := by rw [he]; rfl
      have hscope : env.scope = d.scope := by rw [he]; exact F.scope
      have hkind : ∀ y, env.kindOf y = d.scope.names.lookup y := fun y => by unfold Env.kindOf; rw [hscope]
      have hcells : env.cells = cellsFrom (s.heap.objs.size + 1) fd.scope.names [] := by rw [he]; rfl
      refine ⟨(Gl.nl.keeps hx).keeps x.toInCall.keep, ?_⟩
      refine C_func ?_
      have none_ge : ∀ b, s.heap.objs.size ≤ b → s.heap.get? b = none ∧ g b = none := fun b hb => by
        have e : s.heap.get? b = none := by
          cases q : s.heap.get? b with
          | none => rfl
          | some ob => exact absurd (Heap.lt_size q) (Nat.not_lt.mpr hb)
        refine ⟨e, ?_⟩
        cases q : g b with
        | none => rfl
        | some ob => have := sb _ _ q; rw [e] at this; cases this
      have same : Same s s' := by
        obtain ⟨h', tk, e⟩ := x.toInCall.same
        rw [e]; exact ⟨rfl, rfl, rfl⟩
      have X : Inv HG (fun b => s.heap.get? b) g env ⟨d.scope.names, d.params.zip (vs.map Ent.val)⟩ (argAt d.params vals) s s' g := by
        refine ⟨hx.trans x.toInCall.keep, fun b ob e => x.toInCall.keep b ob (sb b ob e), by rw [hscope]; exact F.kind, by rw [he]; exact F.glob, by rw [he]; exact F.blt, fun y k hk => ?_, fun y e hy => ?_, same, fun b ob e => x.toInCall.keep b ob e, fun b ob e => hx b ob e, .refl _, fun b ob e => .inl e, ⟨_, x.toInCall.ns⟩, fun y hk => ?_, fun y z c h1 h2 => ?_, ?_, ?_⟩
        · have hk' : d.scope.names.lookup y = some k := hk
          cases k with
          | free => exact absurd hk' (nof y)
          | «local» => exact (hkind y).trans hk'
          | cell => exact (hkind y).trans hk'
          | globalExplicit => exact (hkind y).trans hk'
          | globalImplicit => exact (hkind y).trans hk'
        · obtain ⟨q, v, rfl, rv, hm⟩ := zip_lookE r hy
          have ea : argAt d.params vals y = v := argAt_eq hl F.nodup hm
          rw [ea]
          refine ⟨?_, rv⟩
          show Holds env s'.heap y v (d.scope.names.lookup y)
          rcases F.params y (keyOf y v hm) with k | k
          · rw [k]
            exact ⟨_, x.toInCall.ns, bindL_get _ (by rw [hkind]; exact k) _ _ nd hm⟩
          · rw [k]
            obtain ⟨c, e, _⟩ := cex y (by rw [F.scope]; exact mem_of_lookup k)
            have ce : env.cells.lookup y = some c := by rw [hcells]; exact e
            refine ⟨c, ce, ?_⟩
            have := x.cell y c ce
            rw [bindC_get _ (by rw [hkind]; exact k) _ _ nd hm] at this
            exact this
        · have hk' : d.scope.names.lookup y = some .cell ∨ d.scope.names.lookup y = some .free := hk
          rcases hk' with k | k
          · obtain ⟨c, e, _⟩ := cex y (by rw [F.scope]; exact mem_of_lookup k)
            have ce : env.cells.lookup y = some c := by rw [hcells]; exact e
            exact ⟨c, _, ce, x.cell y c ce⟩
          · exact absurd k (nof y)
        · exact name_of_addr x.apart (mem_of_lookup h1) (mem_of_lookup h2)
        · rintro b (rfl | ⟨y, hk, hc⟩ | ⟨y, e, hy, ow⟩)
          · rw [hloc]; exact none_ge _ (Nat.le_refl _)
          · have := x.above y b (mem_of_lookup hc)
            rw [hloc] at this
            exact none_ge b (Nat.le_of_lt this)
          · obtain ⟨q, v, rfl, _, _⟩ := zip_lookE r hy
            exact ow.elim
        · intro y z e f' b hy hz oy oz
          obtain ⟨q, v, rfl, _, _⟩ := zip_lookE r hy
          exact oy.elim
      split at h
      · rename_i fm₁ q hq
        cases h
        refine G_mono (hex env X hq) fun fl s'' h'' => ?_
        obtain ⟨ρ', g'', Y, v, rfl, rv⟩ := h''
        exact ⟨g'', ⟨Y.same, Y.bs, Y.le, Y.gs, Y.new⟩, rv⟩
      · rename_i fm₁ hq
        cases h
        refine G_mono (hex env X hq) fun fl s'' h'' => ?_
        obtain ⟨ρ', g'', Y, hfl⟩ := h''
        cases hfl
        exact ⟨g'', ⟨Y.same, Y.bs, Y.le, Y.gs, Y.new⟩, by simp only [Rep]⟩
      · cases h
  · cases h

theorem interp_ok (Gl : Glob HG fns mg mb) : ∀ (n : Nat) (A : Around), AOk A n → EvOk prog w A HG (interp fns n).ev ∧ TvOk prog w A HG (interp fns n).tr ∧ ExOk prog w A HG (interp fns n).ex ∧ ClOk prog w A HG mg (interp fns n).cl
  | 0, A, ok => by
    refine ⟨?_, ?_, ?_, ?_⟩
    · intro B g₀ env fm ρ s₀ s g e p X h; cases h
    · intro B g₀ env fm ρ s₀ s g e p X h; cases h
    · intro B g₀ env fm fm' fl ρ s₀ s g body X h; cases h
    · intro f vs p vals s g h; cases h
  | n + 1, A, ok => by
    have ok' := ok.le (Nat.le_succ n)
    obtain ⟨hev, htr, hex, hcl⟩ := interp_ok Gl n A ok'
    have hit : ItOk prog w A HG (interp fns n).ev := it_ok ok' Gl hev
    refine ⟨stepE_ok ok' Gl hcl hev htr hit, stepT_ok ok' hev htr, stepL_ok ok' Gl hev htr hex hit, ?_⟩
    intro f vs p vals s g h hx sb r
    have h' : (match fns f with | some d => callD (interp fns n).ex d vs | none => none) = some p := h
    cases q : fns f with
    | none => rw [q] at h'; cases h'
    | some d =>
      rw [q] at h'
      obtain ⟨a, o, fd, F⟩ := Gl.fn f d q
      exact ⟨a, o, fd, F.at_, F.obj, F.data, call_ok ok Gl F (fun env => (interp_ok Gl n (A.deeper env) (ok.deeper env)).2.2.1) h' hx sb r⟩
end
end Mine
end
section
open PySem PySem.W PyProof.Rows
open Sem (wp)
set_option Elab.async false
set_option maxRecDepth 100000
set_option linter.unusedVariables false
namespace Mine
open PySem.Calls

/-- the call, from a stack with nobody's octets held -/
noncomputable abbrev WalkM (q : Program) (loose : List Str) (XP : (Str → Option Value) → Heap → Prop) (YP : World → Heap → Prop) (r : RowW) (d : DefRec) (kwd : List (Str × Expr)) : Prop :=
  ∀ (w : World) (s₀ s₁ : Shared) (mg mb : Str → Option Value), Ground q loose r.records XP w s₀ mg mb s₁.heap → YP w s₁.heap → ∀ (a : Addr) (o : Obj) (pm cd doc dV kV : Value), s₁.heap.get? a = some o →
    o.data = .func { docDef d.name d.params d.body d.scope pm cd doc with defaults := dV, kwdefaults := kV } → s₁.heap.CodeRec cd d.name → Dflts mg s₁.heap d.params kwd dV kV → mg d.name = some (.ref a) → s₁.gens = #[] →
    ∀ (args : List WData) (vals : List Value) (as : List Addr), r.claim.pre args = true → WData.layableAll args = true → ReadsAllW r.records (classAt s₀.heap) s₁.heap vals args as → WellAll w.params s₁.heap vals args → (∀ a ∈ as, (a == sysModules) = false) →
      wpG (model r.prog w) callerA (PySem.call (.ref a) vals) (fun v s' => GoodWG r.claim (classAt s₀.heap) (ExcName.means s₀.heap) args s₁ (.ok (.ret v)) s') s₁

theorem clean_caller : Clean (⟨.builtin "claim.caller" {}, none, none, [], none⟩ : Ctx) := ⟨by show (!holders.contains "claim.caller") = true; decide, fun c h => (nomatch h)⟩

theorem PySem.W.holds_open {r : OpenRow} {q : Program} {loose : List Str} {Xt : Shared → Bool} {XP : (Str → Option Value) → Heap → Prop} {α : Type} {Yf : Shared → α} {Ya : World → α} {YP : World → Heap → Prop} {d : DefRec} {kwd : List (Str × Expr)} {N : Nat}
    (left : LeftO r.prog q loose Xt Yf Ya N) (hY : ∀ w s, Yf s = Ya w → YP w s.heap) (hYk : ∀ w h h', YP w h → (∀ b o, h.get? b = some o → h'.get? b = some o) → YP w h')
    (hX : ∀ s, Xt s = true → XP (s.heap.nsMap mainGlobals) s.heap) (hXk : ∀ mg h h', XP mg h → (∀ b o, h.get? b = some o → h'.get? b = some o) → XP mg h')
    (hdef : defOf q r.name = some (d, kwd)) (hp : r.prog.theDef r.name = some (d.params, d.body, d.scope)) (hk : kwWritten? d.params.kwonlyargs d.params.kw_defaults = some kwd) (hRf : ∀ s, Xt s = true → RecFacts r.records s.heap) (hwr : (!r.writes || r.records.isEmpty) = true)
    (k1 : r.wellSaid = true) (ok : (chainsOk q && opensWell r.prog && (frees r.toRowW && r.within.isEmpty)) = true) (hb : r.prog.bare) (hw : r.toRowW.promised)
    (call : WalkM q loose XP YP r.toRowW d kwd) : r.Holds := by
  refine ⟨k1, hw, ?_⟩
  obtain ⟨ok1, k5⟩ := Bool.and_eq_true_iff.mp ok
  obtain ⟨hch, o1⟩ := Bool.and_eq_true_iff.mp ok1
  obtain ⟨k5, k6⟩ := Bool.and_eq_true_iff.mp k5
  obtain ⟨hsame, hu, ha, hap, hm⟩ := frees_parts k5
  refine ⟨⟨hb, o1, by show r.makers.map _ = []; rw [hm]; rfl⟩, hw.witness, fun w => ⟨(left.behind hX hch w).1, fun s' hs' => ?_⟩⟩
  obtain ⟨s₀, hf, hg0, s, hT, hz, hgens, hg, G00, y⟩ := (left.behind (XP := fun mg h => XP mg h ∧ RecFacts r.records h) (fun s hs => ⟨hX s hs, hRf s hs⟩) hch w).2 s' hs'
  have G0 : Ground q loose [] XP w s (s.heap.nsMap mainGlobals) (s.heap.nsMap builtinsNs) s.heap := ⟨G00.T, G00.B, G00.D, G00.TE, G00.TD, G00.W, G00.X.1, G00.cls, G00.has, G00.apart, G00.once, G00.K⟩
  have RF := G00.X.2
  refine ⟨s₀, hf, hg0, s, hT, fun n hn => ?_, RF.1, RF.2.1, ?_⟩
  · obtain rfl : n = r.name := by split at hn <;> simp_all
    exact pinned_of_view hg G0 hdef hp hk
  have hgens' : s.gens = #[] := Array.eq_empty_of_size_eq_zero (beq_iff_eq.mp hgens)
  have G : Ground q loose r.records XP w s _ _ s.heap := RF.ground G0
  intro args hpre hlay ord hord
  obtain ⟨⟨vs, s₁⟩, hlaid⟩ := Option.isSome_iff_exists.mp (layAllW_isSome (P := w.params) (ord := ord) G.has args r.args s (pre_splitW hpre).1)
  have keeps := layAllW_keeps _ _ _ hlaid
  have hal := layAllW_rest _ _ _ hlaid
  obtain ⟨as, hrd, hin, hold⟩ := reads_layAllW hord _ _ _ hlaid hlay s₁.heap (fun _ _ e => e)
  have L : Laid r.records w s s₁ args vs as := ⟨⟨ord, hord, hlaid⟩, hrd, hin, hold, keeps, hal.1.trans hgens', hal.2.2.1⟩
  have G₁ := G.keeps hXk keeps
  obtain ⟨a, o, pm, cd, doc, dV, kV, h1, h2, h3, h4, h5⟩ := G₁.fn hdef
  have run := call w s s₁ _ _ G₁ (hYk _ _ _ (hY w s y) keeps) a o pm cd doc dV kV h2 h3 h4 h5 (defOf_name hdef ▸ h1) L.gens args vs as hpre hlay L.reads L.well (L.low G.low)
  have hi := ident_freeW hu ha hap
  have hwi : r.claim.within = [] := List.isEmpty_iff.mp k6
  have tree : wpG (model r.prog w) callerA (do match ← nsGet mainNs r.name with
      | some f => do ret (← PySem.call f vs)
      | none => unsupported "claim.caller:no-such-global") (fun fin s' => ∃ v, fin = .done (.ret v) ∧ GoodWG r.claim (classAt s.heap) (ExcName.means s.heap) args s₁ (.ok (.ret v)) s') s₁ := by
    refine G_obind (wpAny_nsGet G₁.T.g ?_)
    rw [h1]
    exact G_bind (G_mono run fun v s' g => G_pure ⟨v, rfl, g⟩)
  have at0 := tree ⟨.builtin "claim.caller" {}, none, none, [], none⟩ default caller_in clean_caller
  obtain ⟨k, res, s₂, s₃, hsched, hrun, hfo, v, rfl, g⟩ := wp_halts_full (M := model r.prog w) (c := .builtin "claim.caller" {})
    (R := fun res s' => ∃ v, res = .ok (.ret v) ∧ GoodWG r.claim (classAt s.heap) (ExcName.means s.heap) args s₁ (.ok (.ret v)) s') (Shared.asleep_of_life hal.2.2.2 hz)
    (Sem.wp_mono _ _ _ (fun fin p' s' h' => by
      obtain ⟨v, rfl, g⟩ := h'
      exact ⟨⟨v, rfl, g⟩, leftWithCleanup_false_of_bare (g.laid (c := r.claim) hsame hwi hi L).2.2⟩) (fun _ _ _ h' => h'.elim) _ _ at0)
  obtain ⟨z1, z2, _⟩ := g.laid (c := r.claim) hsame hwi hi L
  obtain ⟨eh, _, _, eo, _⟩ := Shared.forget_eq hfo
  have hcase := z1.congr eh
  have hkp : r.writes = true → namesKept r.prog r.keeps s.heap s₃.heap ∧ ∀ x ∈ r.records, ∀ a, classAt s.heap x.1 = some a → recordClass s₃.heap a x.1 (x.2.map (·.1)) = true := by
    rw [eh]
    exact fun q => ⟨namesKept_of hT hg _ keeps g.2.1.old, noTable hwr q⟩
  have hos : s₃.os = s.os := eo.trans z2
  have hlife : s₃.heap.life = s.heap.life := (runN_life _ _ _ hrun).trans hal.2.2.2
  refine ⟨vs, s₁, hlaid, k, _, s₃, hsched, ?_, (fun _ i x hx => by rw [hgens'] at hx; simp at hx), hkp, by rw [hlife], Shared.rest_eq hos⟩
  rcases hcase with ⟨v', e, d1, d2, d3, d4, d5⟩ | ⟨e, ob, cls, e', _⟩
  · cases e
    exact .inl ⟨v, rfl, d1, d2, d3, fun b o y _ => d4 b o y, d5⟩
  · cases e'
end Mine
end
section
open PySem PySem.W PyProof.Rows
open Sem (wp)
set_option Elab.async false
set_option maxRecDepth 100000
set_option linter.unusedVariables false
namespace Mine
open PySem.Calls

theorem zip_lookup {ps : List Str} {vals : List Value} (hl : vals.length = ps.length) : ∀ n ∈ ps, ((ps.zip vals).lookup n).isSome = true := by
  induction ps generalizing vals with
  | nil => intro n h; cases h
  | cons p ps ih =>
    cases vals with
    | nil => cases hl
    | cons v vals =>
      intro n h
      simp only [List.zip_cons_cons, List.lookup_cons]
      split
      · rfl
      · rename_i hn
        rcases List.mem_cons.mp h with e | h
        · subst e; rw [beq_self_eq_true] at hn; cases hn
        · exact ih (by simpa using hl) n h
theorem fm_congr {α β : Type} {f g : α → Option β} : ∀ {l : List α}, (∀ x ∈ l, f x = g x) → l.filterMap f = l.filterMap g
  | [], _ => rfl
  | x :: l, h => by
    rw [List.filterMap_cons, List.filterMap_cons, h x List.mem_cons_self, fm_congr fun y hy => h y (List.mem_cons_of_mem _ hy)]
theorem zip_filter {ps : List Str} {vals : List Value} (hl : vals.length = ps.length) (nd : ps.Nodup) : ps.filterMap (fun n => ((ps.zip vals).lookup n).map (n, ·)) = ps.zip vals := by
  induction ps generalizing vals with
  | nil => cases vals <;> rfl
  | cons p ps ih =>
    cases vals with
    | nil => cases hl
    | cons v vals =>
      rw [List.nodup_cons] at nd
      rw [List.zip_cons_cons, List.filterMap_cons]
      have e1 : List.lookup p ((p, v) :: ps.zip vals) = some v := by rw [List.lookup_cons, beq_self_eq_true]
      rw [e1]
      show (p, v) :: _ = _
      congr 1
      rw [fm_congr (g := fun n => ((ps.zip vals).lookup n).map (n, ·)) fun n hn => ?_]
      · exact ih (by simpa using hl) nd.2
      · rw [List.lookup_cons, beq_eq_false_iff_ne.mpr (fun e => nd.1 (by rw [← e]; exact hn))]

theorem bind_plain {fd : FuncData} {vals : List Value} {as : List Arg} {kd : List (Option Expr)} (hp : fd.params = { posonlyargs := [], args := as, vararg := none, kwonlyargs := [], kw_defaults := kd, kwarg := none, defaults := [] }) (hd : fd.defaults = .none)
    (hl : vals.length = (as.map (·.arg)).length) (nd : (as.map (·.arg)).Nodup) : bindArgs fd ⟨vals, []⟩ = pure ((as.map (·.arg)).zip vals) := by
  have hs : seqItems? Value.none = pure none := rfl
  have hm : (List.filter (fun n => (List.lookup n ((as.map (·.arg)).zip vals)).isNone) (as.map (·.arg))) = [] := by
    rw [List.filter_eq_nil_iff]
    intro n hn
    have := zip_lookup hl n hn
    cases q : List.lookup n ((as.map (·.arg)).zip vals) with
    | none => rw [q] at this; cases this
    | some v => simp
  unfold bindArgs
  simp only [hp, hd, hs, List.map_nil, List.nil_append, List.append_nil, List.forIn_nil, pure_bind, Option.getD_none, List.drop_nil, List.length_nil, Nat.sub_zero, List.take_length, List.drop_length, List.zip_nil_right, hl, Nat.lt_irrefl, gt_iff_lt, decide_false, Bool.false_and, Bool.false_eq_true, if_false, List.isEmpty_nil, Bool.not_true]
  rw [hm]
  simp only [List.isEmpty_nil, Bool.not_true, Bool.false_eq_true, if_false]
  rw [zip_filter hl nd]

noncomputable def okDef (d : DefRec) (kw : List (Str × Expr)) : Bool :=
  d.params.posonlyargs.isEmpty && d.params.vararg.isNone && d.params.kwonlyargs.isEmpty && d.params.kwarg.isNone && d.params.defaults.isEmpty && kw.isEmpty && !d.scope.isCoroutine && !d.scope.isGenerator && d.scope.kind == .function &&
  (d.params.args.all fun a => d.scope.names.lookup a.arg == some .local || d.scope.names.lookup a.arg == some .cell) && decide (d.params.args.map (·.arg)).Nodup && d.scope.names.all fun p => p.2 != .free
noncomputable def fnsOf (q : Program) (f : Str) : Option Def := match defOf q f with
  | some (d, kw) => if okDef d kw = true then some ⟨d.params.args.map (·.arg), d.body, d.scope⟩ else none
  | none => none
noncomputable def bnames : List Str := ["len", "range", "bytes", "list", "sum", "abs", "max", "min", "sorted", "int", "isinstance", "zip", "bytearray"]
noncomputable def okGlob (q : Program) (loose : List Str) : Bool :=
  bnames.all fun x => decide (x ∉ startupNames) && decide (x ∉ looseW q loose) && decide (x ∉ (recsOf q).map (·.name)) && decide (x ∉ (litsOf q).map (·.1)) && decide (x ∉ (clssOf q (looseW q loose)).map (·.name)) && decide (x ≠ ("__name__" : Str)) && decide (fnsOf q x = none)

theorem bval_name {f : Str} {v : Value} (h : bval f = some v) : f ∈ bnames := by
  unfold bval at h
  by_cases c0 : f = ("len" : Str)
  · rw [c0]; decide
  rw [if_neg c0] at h
  by_cases c1 : f = ("range" : Str)
  · rw [c1]; decide
  rw [if_neg c1] at h
  by_cases c2 : f = ("bytes" : Str)
  · rw [c2]; decide
  rw [if_neg c2] at h
  by_cases c3 : f = ("list" : Str)
  · rw [c3]; decide
  rw [if_neg c3] at h
  by_cases c4 : f = ("sum" : Str)
  · rw [c4]; decide
  rw [if_neg c4] at h
  by_cases c5 : f = ("abs" : Str)
  · rw [c5]; decide
  rw [if_neg c5] at h
  by_cases c6 : f = ("max" : Str)
  · rw [c6]; decide
  rw [if_neg c6] at h
  by_cases c7 : f = ("min" : Str)
  · rw [c7]; decide
  rw [if_neg c7] at h
  by_cases c8 : f = ("sorted" : Str)
  · rw [c8]; decide
  rw [if_neg c8] at h
  by_cases c9 : f = ("int" : Str)
  · rw [c9]; decide
  rw [if_neg c9] at h
  by_cases c10 : f = ("isinstance" : Str)
  · rw [c10]; decide
  rw [if_neg c10] at h
  by_cases c11 : f = ("zip" : Str)
  · rw [c11]; decide
  rw [if_neg c11] at h
  by_cases c12 : f = ("bytearray" : Str)
  · rw [c12]; decide
  rw [if_neg c12] at h
  cases h

section
variable {q : Program} {loose : List Str} {R : WRecords} {XP : (Str → Option Value) → Heap → Prop} {w : World} {s₀ : Shared} {mg mb : Str → Option Value} {h : Heap}
theorem fun_of (G : Ground q loose R XP w s₀ mg mb h) {f : Str} {d : Def} (e : fnsOf q f = some d) : ∃ a o fd, FunAt h mg f d a o fd := by
  unfold fnsOf at e
  split at e
  · rename_i dr kw hdef
    split at e
    · rename_i hok
      cases e
      obtain ⟨a, o, pm, cd, doc, dV, kV, h1, h2, h3, h4, h5⟩ := G.fn hdef
      simp only [okDef, Bool.and_eq_true, List.isEmpty_iff, Option.isNone_iff_eq_none, Bool.not_eq_true', beq_iff_eq, List.all_eq_true, Bool.or_eq_true, decide_eq_true_eq, bne_iff_ne, ne_eq] at hok
      obtain ⟨⟨⟨⟨⟨⟨⟨⟨⟨⟨⟨p1, p2⟩, p3⟩, p4⟩, p5⟩, p6⟩, p7⟩, p8⟩, p9⟩, p10⟩, p11⟩, p12⟩ := hok
      have dv : dV = .none := by
        rcases h5.pos with ⟨_, e⟩ | ⟨n, _⟩
        · exact e
        · exact absurd p5 n
      subst dv
      have key : ∀ P : Arguments, P.posonlyargs = [] → P.vararg = none → P.kwonlyargs = [] → P.kwarg = none → P.defaults = [] → P = { posonlyargs := [], args := P.args, vararg := none, kwonlyargs := [], kw_defaults := P.kw_defaults, kwarg := none, defaults := [] } := by
        rintro ⟨a1, a2, a3, a4, a5, a6, a7⟩ h1 h2 h3 h4 h5
        simp only at h1 h2 h3 h4 h5
        subst h1 h2 h3 h4 h5
        rfl
      have hparams := key dr.params p1 p2 p3 p4 p5
      refine ⟨a, o, _, ⟨h1, h2, h3, rfl, rfl, rfl, rfl, rfl, h4, fun vals hl => bind_plain (by exact hparams) rfl hl p11, p7, p8, p9, fun x hx => ?_, p11, p12⟩⟩
      obtain ⟨y, hy, rfl⟩ := List.mem_map.mp hx
      exact p10 y hy
    · cases e
  · cases e
theorem glob_of (G : Ground q loose R XP w s₀ mg mb h) (ok : okGlob q loose = true) (hb : bnames.all (fun x => decide (bootBuiltins x = bval x)) = true) : Glob h (fnsOf q) mg mb := by
  simp only [okGlob, List.all_eq_true, Bool.and_eq_true, decide_eq_true_eq] at ok hb
  refine ⟨G.T.g, G.T.b, G.T.nolimit, fun f v hv hn => ?_, fun f d e => fun_of G e, ?_, ?_, ?_, ?_⟩
  · have hm := bval_name hv
    obtain ⟨⟨⟨⟨⟨⟨o1, o2⟩, o3⟩, o4⟩, o5⟩, o6⟩, o7⟩ := ok f hm
    exact ⟨G.T.free f o1 o2 o3 o4 o5, (G.T.builtins f o6).trans ((hb f hm).trans hv)⟩
  · exact (ok _ (by simp [bnames])).2
  · exact (ok _ (by simp [bnames])).2
  · exact (ok _ (by simp [bnames])).2
  · exact (ok _ (by simp [bnames])).2
theorem ok_caller {n : Nat} (h : n ≤ 600) : AOk callerA n := ⟨rfl, rfl, by show 1 + claimMargin + n < recursionLimit; unfold claimMargin recursionLimit; omega, by show 4 + 5 * n + 200 < cLine; unfold cLine; omega⟩
theorem boot_ok : bnames.all (fun x => decide (bootBuiltins x = bval x)) = true := by decide +kernel

/-- the call of a law's function, by the interpreter -/
theorem law_call (G : Ground q loose R XP w s₀ mg mb h) (ok : okGlob q loose = true) {prog : Program} {s : Shared} (hs : s.heap = h) {f : Str} {n : Nat} (hn : n ≤ 600) {g : Fz} {vs : List PV} {vals : List Value} {p : PV} (hc : (interp (fnsOf q) n).cl f vs = some p)
    (sb : Sub g h) (r : Reps g vs vals) {a : Addr} (ha : mg f = some (.ref a)) : wpG (model prog w) callerA (call (.ref a) vals []) (Gets s g p) s := by
  subst hs
  have Gl := glob_of G ok boot_ok
  obtain ⟨_, _, _, hcl⟩ := interp_ok (prog := prog) (w := w) Gl n callerA (ok_caller hn)
  obtain ⟨a', o, fd, e1, e2, e3, k⟩ := hcl hc (Ext.refl _) sb r
  rw [ha] at e1; cases e1
  exact k
end
theorem post_true (l : OpenLaw) (args ds : List WData) : l.row.toRowW.claim.post args (.bool true) ds = true := by
  show (WShape.has [] (.bool true) .bool && _) = true
  rw [show WShape.has [] (.bool true) .bool = true from by decide +kernel, Bool.true_and]
  unfold OpenLaw.row
  first | rfl | kernel_rfl | simp
end Mine
end
section
open PySem PySem.W PyProof.Rows
set_option Elab.async false
set_option maxRecDepth 100000
set_option linter.unusedVariables false
namespace Mine

noncomputable def bodyAt (p : Program) (i : Nat) : List Stmt := match p.main.body[i]? with | some (.FunctionDef _ _ b _ _ _ _ _ _ _) => b | _ => []
noncomputable def scopeAt (p : Program) (i : Nat) : Scope := match p.main.body[i]? with | some (.FunctionDef _ _ _ _ _ _ s _ _ _) => s | _ => default
noncomputable def paramsAt (p : Program) (i : Nat) : List Str := match p.main.body[i]? with | some (.FunctionDef _ a _ _ _ _ _ _ _ _) => a.args.map (·.arg) | _ => []

theorem str_inj (a b : String) : (Str.ofString a = Str.ofString b) = (a = b) := by
  refine propext ⟨fun h => ?_, fun h => by rw [h]⟩
  rw [Str.ofString_eq_toList, Str.ofString_eq_toList] at h
  injection h with h
  have h1 : a.toList.map Char.toNat = b.toList.map Char.toNat := by simpa using h
  have h2 : a.toList = b.toList := by
    refine (List.map_inj_right fun x y hxy => ?_).mp h1
    exact Char.ext (UInt32.toNat.inj hxy)
  exact String.ext h2
theorem asInts_vals : ∀ ns : List Int, asInts (intVals ns) = some ns
  | [] => rfl
  | n :: ns => by
    have := asInts_vals ns
    unfold asInts intVals at *
    simp only [List.map_cons, mapO, asInt, this]
theorem cl_eq (fns : Str → Option Def) (n : Nat) (f : Str) (vs : List PV) : (interp fns (n + 1)).cl f vs = match fns f with | some d => callD (interp fns n).ex d vs | none => none := rfl
theorem callD_ret {ex : XV} {ps : List Str} {b : List Stmt} {sc : Scope} {vs : List PV} {fm : Fm} {p : PV} (hl : vs.length = ps.length)
    (he : ex ⟨sc.names, ps.zip (vs.map Ent.val)⟩ b = some (fm, .ret p)) : callD ex ⟨ps, b, sc⟩ vs = some p := by
  unfold callD
  rw [if_pos hl]
  simp only [he]
end Mine
end
section
open PySem PySem.W PyProof.Rows
set_option Elab.async false
set_option maxRecDepth 100000
set_option linter.unusedVariables false
namespace Mine

theorem lookE_setE (vs : List (Str × Ent)) (x : Str) (e : Ent) (y : Str) : lookE (setE vs x e) y = if y = x then some e else lookE vs y := by
  induction vs with
  | nil => simp only [setE, lookE]
  | cons p r ih =>
    obtain ⟨z, f⟩ := p
    simp only [setE]
    by_cases h : x = z
    · subst h
      rw [if_pos rfl]
      simp only [lookE]
      by_cases h2 : y = x
      · rw [if_pos h2, if_pos h2]
      · rw [if_neg h2, if_neg h2, if_neg h2]
    · rw [if_neg h]
      simp only [lookE, ih]
      by_cases h2 : y = z
      · subst h2
        rw [if_pos rfl, if_neg (fun e => h e.symm), if_pos rfl]
      · rw [if_neg h2, if_neg h2]
theorem lookE_frz (vs : List (Str × Ent)) (y : Str) : lookE (frzAll vs) y = (lookE vs y).map frz := by
  induction vs with
  | nil => rfl
  | cons p r ih =>
    obtain ⟨z, f⟩ := p
    simp only [frzAll, lookE]
    by_cases h : y = z
    · rw [if_pos h, if_pos h]; rfl
    · rw [if_neg h, if_neg h]; exact ih
noncomputable def NoB (fns : Str → Option Def) : Prop := ∀ x ∈ bnames, fns x = none
theorem noB_of {q : Program} {l : List Str} (h : okGlob q l = true) : NoB (fnsOf q) := by
  intro x hx
  simp only [okGlob, List.all_eq_true, Bool.and_eq_true, decide_eq_true_eq] at h
  exact (h x hx).2
section
variable {fns : Str → Option Def} (h : NoB fns)
include h
theorem nb_len : fns (Str.ofString "len") = none := h _ (by decide)
theorem nb_range : fns (Str.ofString "range") = none := h _ (by decide)
theorem nb_bytes : fns (Str.ofString "bytes") = none := h _ (by decide)
theorem nb_list : fns (Str.ofString "list") = none := h _ (by decide)
theorem nb_sum : fns (Str.ofString "sum") = none := h _ (by decide)
theorem nb_abs : fns (Str.ofString "abs") = none := h _ (by decide)
theorem nb_max : fns (Str.ofString "max") = none := h _ (by decide)
theorem nb_int : fns (Str.ofString "int") = none := h _ (by decide)
end

/-- a loop by what holds between its turns -/
theorem forL_inv {ex : XV} {tgt : Expr} {body : List Stmt} (I : Nat → Fm → Prop) : ∀ (its : List PV) (k : Nat) (fm : Fm),
    (∀ i v fm, its[i]? = some v → I (k + i) fm → ∃ fm1 fm2, bindT tgt v fm = some fm1 ∧ ex fm1 body = some (fm2, .next) ∧ I (k + i + 1) fm2) → I k fm → ∃ fm', forL ex tgt body its fm = some (fm', .next) ∧ I (k + its.length) fm'
  | [], k, fm, _, h => ⟨fm, rfl, h⟩
  | v :: r, k, fm, st, h => by
    obtain ⟨fm1, fm2, e1, e2, h2⟩ := st 0 v fm rfl h
    obtain ⟨fm', e3, h3⟩ := forL_inv I r (k + 1) fm2 (fun i v fm hi hI => by
      have := st (i + 1) v fm (by simpa using hi) (by rw [show k + (i + 1) = k + 1 + i from by omega]; exact hI)
      rw [show k + (i + 1) + 1 = k + 1 + i + 1 from by omega] at this
      exact this) h2
    refine ⟨fm', ?_, by rw [List.length_cons, show k + (r.length + 1) = k + 1 + r.length from by omega]; exact h3⟩
    simp only [forL, e1, e2, e3]
theorem rangeLen_mul {m w : Nat} (hw : 0 < w) : rangeLen 0 ((w * m : Nat) : Int) (w : Int) = m := by
  unfold rangeLen Builtin.Range.rangeSize
  have hw' : (0 : Int) < w := by omega
  rw [if_pos hw']
  cases m with
  | zero => simp
  | succ k =>
    have h1 : (0 : Int) < ((w * (k + 1) : Nat) : Int) := Int.ofNat_lt.mpr (Nat.mul_pos hw (Nat.succ_pos k))
    rw [if_pos h1]
    have e : ((w * (k + 1) : Nat) : Int) - 0 - 1 = ((w : Int) - 1) + (w : Int) * (k : Int) := by
      rw [Nat.mul_add, Nat.mul_one]; push_cast; omega
    rw [e, Int.add_mul_ediv_left _ _ (by omega), Int.ediv_eq_zero_of_lt (by omega) (by omega)]
    omega
theorem rangeLen_one {n : Nat} : rangeLen 0 (n : Int) 1 = n := by
  have := @rangeLen_mul n 1 (by decide)
  rw [Nat.one_mul] at this
  exact this
end Mine
end
section
open PySem PySem.W PyProof.Rows
set_option Elab.async false
set_option maxRecDepth 100000
set_option linter.unusedVariables false
namespace Mine
/-! the interpreter's parts as rules: their bounds are premises -/
theorem smallOf {i : Int} (h1 : -4611686018427387904 ≤ i) (h2 : i < 4611686018427387904) : smallI i = true := by
  simp only [smallI, Bool.and_eq_true, decide_eq_true_eq]; exact ⟨h1, h2⟩
theorem b_add {a b : Int} : binop .Add (.int a) (.int b) = some (.int (a + b)) := by unfold binop; rfl
theorem b_sub {a b : Int} : binop .Sub (.int a) (.int b) = some (.int (a - b)) := by unfold binop; rfl
theorem b_mul {a b : Int} (h : smallI b = true ∨ smallI a = true) : binop .Mult (.int a) (.int b) = some (.int (a * b)) := by unfold binop; exact if_pos h
theorem b_mulL {a b : Int} (h : smallI b = true) : binop .Mult (.int a) (.int b) = some (.int (a * b)) := b_mul (.inl h)
theorem b_mulR {a b : Int} (h : smallI a = true) : binop .Mult (.int a) (.int b) = some (.int (a * b)) := b_mul (.inr h)
theorem b_fdiv {a b : Int} (h : b ≠ 0) (h2 : smallI b = true) : binop .FloorDiv (.int a) (.int b) = some (.int (a.fdiv b)) := by unfold binop; exact if_pos ⟨h, h2⟩
theorem b_mod {a b : Int} (h : b ≠ 0) : binop .Mod (.int a) (.int b) = some (.int (a.fmod b)) := by unfold binop; exact if_pos h
theorem b_pow {a n : Int} (h : 0 ≤ n) (h1 : n ≤ 1000) (h2 : smallI a = true) : binop .Pow (.int a) (.int n) = some (.int (a ^ n.toNat)) := by unfold binop; exact if_pos ⟨h, h1, h2⟩
theorem b_addl {xs ys : List PV} (h : xs.length + ys.length ≤ lim) : binop .Add (.list xs) (.list ys) = some (.list (xs ++ ys)) := by unfold binop; exact if_pos h
theorem b_mull {xs : List PV} {n : Int} (h : 0 ≤ n) (h1 : n ≤ 100) (h2 : xs.length ≤ 100) : binop .Mult (.list xs) (.int n) = some (.list (List.replicate n.toNat xs).flatten) := by unfold binop; exact if_pos ⟨h, h1, h2⟩
theorem s_bytes {b : List UInt8} {i : Int} (h1 : b.length ≤ lim) (h2 : smallI i = true) : subscr (.bytes b) (.int i) = (indexL b i).map fun c => .int c.toNat := by unfold subscr; exact if_pos ⟨h2, h1⟩
theorem s_bytesT {b : List UInt8} {i : Int} {c : UInt8} (h1 : b.length ≤ lim) (h2 : smallI i = true) (h : indexL b i = some c) : subscr (.bytes b) (.int i) = some (.int c.toNat) := by rw [s_bytes h1 h2, h]; rfl
theorem s_list {b : List PV} {i : Int} (h1 : b.length ≤ lim) (h2 : smallI i = true) : subscr (.list b) (.int i) = indexL b i := by unfold subscr; exact if_pos ⟨h2, h1⟩
theorem s_listT {b : List PV} {i : Int} {c : PV} (h1 : b.length ≤ lim) (h2 : smallI i = true) (h : indexL b i = some c) : subscr (.list b) (.int i) = some c := by rw [s_list h1 h2, h]
theorem sl_bytes {b : List UInt8} {lo hi : Option Int} (h1 : b.length ≤ lim) : slicing (.bytes b) lo hi = some (.bytes (sliceL b lo hi)) := by unfold slicing; exact if_pos h1
theorem sl_list {b : List PV} {lo hi : Option Int} (h1 : b.length ≤ lim) : slicing (.list b) lo hi = some (.list (sliceL b lo hi)) := by unfold slicing; exact if_pos h1
theorem it_list {b : List PV} (h1 : b.length ≤ lim) : items (.list b) = some b := by unfold items; exact if_pos h1
theorem it_rng {a b c : Int} (h1 : smallI a = true) (h2 : smallI b = true) (h3 : 0 < c) (h4 : smallI c = true) (h5 : rangeLen a b c ≤ lim) : items (.rng a b c) = some (rangeItems a c (rangeLen a b c)) := by unfold items; exact if_pos ⟨h1, h2, h3, h4, h5⟩
theorem it_mul {m w : Nat} (hw : 0 < w) (h : w * m ≤ 1000) (h' : w ≤ 1000) : items (.rng 0 ((w * m : Nat) : Int) (w : Int)) = some (rangeItems 0 (w : Int) m) := by
  have e := rangeLen_mul (m := m) hw
  rw [it_rng (by decide) (smallOf (by omega) (by omega)) (by omega) (smallOf (by omega) (by omega)), e]
  rw [e]
  exact Nat.le_trans (Nat.le_trans (Nat.le_mul_of_pos_left m hw) h) (by decide)
theorem it_one {n : Nat} (h : n ≤ 1000) : items (.rng 0 (n : Int) 1) = some (rangeItems 0 1 n) := by
  have e := rangeLen_one (n := n)
  rw [it_rng (by decide) (smallOf (by omega) (by omega)) (by decide) (by decide), e]
  rw [e]
  exact Nat.le_trans h (by decide)
noncomputable abbrev S (x : String) : Str := Str.ofString x
theorem c_len {ps : List PV} (h : ps.length ≤ lim) : bcall (S "len") [.list ps] = some (.int ps.length) := by simp only [bcall, str_inj, String.reduceEq, if_true, if_false, if_pos h]
theorem c_lenb {b : List UInt8} (h : b.length ≤ lim) : bcall (S "len") [.bytes b] = some (.int b.length) := by simp only [bcall, str_inj, String.reduceEq, if_true, if_false, if_pos h]
theorem c_rng1 {n : Int} : bcall (S "range") [.int n] = some (.rng 0 n 1) := by simp only [bcall, str_inj, String.reduceEq, if_true, if_false]
theorem c_rng2 {a n : Int} : bcall (S "range") [.int a, .int n] = some (.rng a n 1) := by simp only [bcall, str_inj, String.reduceEq, if_true, if_false]
theorem c_rng3 {a n c : Int} (h : c ≠ 0) (h2 : smallI c = true) : bcall (S "range") [.int a, .int n, .int c] = some (.rng a n c) := by simp only [bcall, str_inj, String.reduceEq, if_true, if_false, if_pos (And.intro h h2)]
theorem c_bytesl {ps : List PV} (h : ps.length ≤ lim) : bcall (S "bytes") [.list ps] = (mapO asByte ps).map PV.bytes := by simp only [bcall, str_inj, String.reduceEq, if_true, if_false, if_pos h]
theorem c_bytesb {b : List UInt8} (h : b.length ≤ lim) : bcall (S "bytes") [.barr b] = some (.bytes b) := by simp only [bcall, str_inj, String.reduceEq, if_true, if_false, if_pos h]
theorem c_list {b : List UInt8} (h : b.length ≤ lim) : bcall (S "list") [.bytes b] = some (.list (bytesInts b)) := by simp only [bcall, str_inj, String.reduceEq, if_true, if_false, if_pos h]
theorem c_sum {ps : List PV} (h : ps.length ≤ lim) : bcall (S "sum") [.list ps] = (asInts ps).map fun is => .int is.sum := by simp only [bcall, str_inj, String.reduceEq, if_true, if_false, if_pos h]
theorem c_abs {a : Int} : bcall (S "abs") [.int a] = some (.int (if a < 0 then -a else a)) := by simp only [bcall, str_inj, String.reduceEq, if_true, if_false]
theorem c_max2 {a b : Int} : bcall (S "max") [.int a, .int b] = some (.int (if b > a then b else a)) := by simp only [bcall, str_inj, String.reduceEq, if_true, if_false]
theorem c_int {a : Int} : bcall (S "int") [.int a] = some (.int a) := by simp only [bcall, str_inj, String.reduceEq, if_true, if_false]
theorem x_store {N : List (Str × NameKind)} {vs : List (Str × Ent)} {ev : EV} {tr : TV} {ex : XV} {n : Nat} {x : Str} {p1 p2 p3 : Pos} {i e : Expr} {b : List UInt8} {v k : Int} {m : Nat} {c : UInt8} (h0 : (loadable (N.lookup x) && decide (x ≠ ("__debug__" : Str)) && notComp e) = true)
    (hx : lookE vs x = some (.arr b)) (he : ev ⟨N, vs⟩ e = some (.int v)) (hi : ev ⟨N, vs⟩ i = some (.int k)) (hv : v = c.toNat) (hk : k = m) (hm : m < b.length) (hb : b.length ≤ lim) :
    stepS ev tr ex n ⟨N, vs⟩ (.Assign [.Subscript (.Name x p1) i p2] e p3) = some (⟨N, setE vs x (.arr (b.set m c))⟩, .next) := by
  simp only [Bool.and_eq_true, decide_eq_true_eq] at h0
  obtain ⟨⟨h1, h2⟩, h3⟩ := h0
  subst hv hk
  have hc : (c.toNat : Int) < 256 := by have := c.toNat_lt; omega
  show (if loadable (N.lookup x) = true ∧ x ≠ ("__debug__" : Str) ∧ notComp e = true then (match lookE vs x, ev ⟨N, vs⟩ e, ev ⟨N, vs⟩ i with
    | some (.arr b), some (.int v), some (.int k) => if 0 ≤ v ∧ v < 256 ∧ 0 ≤ k ∧ k < b.length ∧ b.length ≤ lim then some ((⟨N, setE vs x (.arr (b.set k.toNat v.toNat.toUInt8))⟩ : Fm), Fl.next) else none
    | _, _, _ => none) else none) = _
  rw [if_pos ⟨h1, h2, h3⟩, hx, he, hi]
  dsimp only
  rw [if_pos ⟨Int.natCast_nonneg _, hc, Int.natCast_nonneg _, Int.ofNat_lt.mpr hm, hb⟩, Int.toNat_natCast, Int.toNat_natCast]
  simp
/-! rules of the interpreter, to be used backwards -/
theorem lk_hit {vs : List (Str × Ent)} {x : Str} {e : Ent} : lookE (setE vs x e) x = some e := by rw [lookE_setE, if_pos rfl]
theorem lk_miss {vs : List (Str × Ent)} {x y : Str} {e f : Ent} (h : y ≠ x) (k : lookE vs y = some f) : lookE (setE vs x e) y = some f := by rw [lookE_setE, if_neg h]; exact k
theorem lk_frzv {vs : List (Str × Ent)} {x : Str} {p : PV} (k : lookE vs x = some (.val p)) : lookE (frzAll vs) x = some (.val p) := by rw [lookE_frz, k]; rfl
theorem lk_frzl {vs : List (Str × Ent)} {x : Str} {p : List PV} (k : lookE vs x = some (.lst p)) : lookE (frzAll vs) x = some (.val (.list p)) := by rw [lookE_frz, k]; rfl
theorem lk_frza {vs : List (Str × Ent)} {x : Str} {p : List UInt8} (k : lookE vs x = some (.arr p)) : lookE (frzAll vs) x = some (.val (.barr p)) := by rw [lookE_frz, k]; rfl
theorem lk_cons {r : List (Str × Ent)} {x : Str} {e : Ent} : lookE ((x, e) :: r) x = some e := by simp only [lookE, if_true]
theorem lk_skip {r : List (Str × Ent)} {x y : Str} {e f : Ent} (h : y ≠ x) (k : lookE r y = some f) : lookE ((x, e) :: r) y = some f := by simp only [lookE]; rw [if_neg h]; exact k
theorem lk_del {x y : Str} (h : y ≠ x) : ∀ {vs : List (Str × Ent)} {f : Option Ent}, lookE vs y = f → lookE (delE vs x) y = f
  | [], _, k => k
  | (z, e) :: r, f, k => by
    simp only [delE]
    by_cases c : x = z
    · subst c
      rw [if_pos rfl]
      simp only [lookE] at k
      rw [if_neg h] at k
      exact lk_del h k
    · rw [if_neg c]
      simp only [lookE] at k ⊢
      by_cases d : y = z
      · rw [if_pos d] at k ⊢; exact k
      · rw [if_neg d] at k ⊢; exact lk_del h k
theorem cg_get {names N : List (Str × NameKind)} {vs : List (Str × Ent)} {x : Str} {p : PV} (h1 : names.lookup x = some .free) (k : lookE vs x = some (.val p)) : ∀ {l : List (Str × NameKind)}, (x, NameKind.free) ∈ l → lookE (caught names ⟨N, vs⟩ l) x = some (.val p)
  | [], h => (nomatch h)
  | (y, kd) :: r, h => by
    have ih := fun h' : (x, NameKind.free) ∈ r => cg_get (N := N) h1 k h'
    rcases List.mem_cons.mp h with e | h'
    · cases e
      simp only [caught, Fm.get, h1, k, lookE, if_true]
    · have e := ih h'
      cases kd with
      | free =>
        simp only [caught]
        split
        · rename_i q h2 h3
          simp only [lookE]
          by_cases c : x = y
          · subst c
            rw [if_pos rfl]
            simp only [Fm.get] at h3
            rw [k] at h3
            cases h3; rfl
          · rw [if_neg c]; exact e
        · exact e
      | _ => simp only [caught]; exact e
theorem cg_none {names N : List (Str × NameKind)} {vs : List (Str × Ent)} {x : Str} : ∀ {l : List (Str × NameKind)}, (x, NameKind.free) ∉ l → lookE (caught names ⟨N, vs⟩ l) x = none
  | [], h => rfl
  | (y, kd) :: r, h => by
    have e := cg_none (names := names) (N := N) (vs := vs) (x := x) (l := r) fun h' => h (List.mem_cons_of_mem _ h')
    cases kd with
    | free =>
      simp only [caught]
      split
      · simp only [lookE]
        rw [if_neg (fun c => h (by subst c; exact List.mem_cons_self))]; exact e
      · exact e
    | _ => simp only [caught]; exact e
theorem m_nil {α β : Type} {f : α → Option β} : mapO f [] = some [] := by simp only [mapO]
theorem m_cons {α β : Type} {f : α → Option β} {a : α} {r : List α} {b : β} {bs : List β} (h : f a = some b) (k : mapO f r = some bs) : mapO f (a :: r) = some (b :: bs) := by simp only [mapO, h, k]
theorem m_none {α β : Type} {f : α → Option β} {a : α} {r : List α} (h : f a = none) : mapO f (a :: r) = none := by simp only [mapO, h]

section
variable {fns : Str → Option Def} {n : Nat} {N : List (Str × NameKind)} {vs : List (Str × Ent)}
theorem a_of {ev : EV} {fm : Fm} {es : List Expr} {r : List PV} (h : es.all noStar = true) (k : mapO (ev fm) es = some r) : evArgs ev fm es = some r := by unfold evArgs; rw [if_pos h]; exact k
theorem e_int {i : Int} {kd : Nat} {p : Pos} {fm : Fm} : (interp fns (n + 1)).ev fm (.Constant (.int i) kd p) = some (.int i) := rfl
theorem e_bool {b : Bool} {kd : Nat} {p : Pos} {fm : Fm} : (interp fns (n + 1)).ev fm (.Constant (.bool b) kd p) = some (.bool b) := rfl
theorem ev_name {x : Str} {p : Pos} : (interp fns (n + 1)).ev ⟨N, vs⟩ (.Name x p) = if loadable (N.lookup x) = true ∧ x ≠ ("__debug__" : Str) then (match lookE vs x with | some (.val p) => some p | _ => none) else none := rfl
theorem e_name {x : Str} {p : Pos} {v : PV} (h1 : loadable (N.lookup x) = true) (h2 : x ≠ ("__debug__" : Str)) (h : lookE vs x = some (.val v)) : (interp fns (n + 1)).ev ⟨N, vs⟩ (.Name x p) = some v := by
  rw [ev_name, if_pos ⟨h1, h2⟩, h]
theorem e_name_lst {x : Str} {p : Pos} {v : List PV} (h : lookE vs x = some (.lst v)) : (interp fns (n + 1)).ev ⟨N, vs⟩ (.Name x p) = none := by
  rw [ev_name, h]; exact ite_self _
theorem e_name_arr {x : Str} {p : Pos} {v : List UInt8} (h : lookE vs x = some (.arr v)) : (interp fns (n + 1)).ev ⟨N, vs⟩ (.Name x p) = none := by
  rw [ev_name, h]; exact ite_self _
theorem ev_bin {l r : Expr} {op : Operator} {p : Pos} {fm : Fm} : (interp fns (n + 1)).ev fm (.BinOp l op r p) = ((interp fns n).ev fm l).bind fun a => ((interp fns n).ev fm r).bind fun b => binop op a b := rfl
theorem e_bin {l r : Expr} {op : Operator} {p : Pos} {fm : Fm} {a b c : PV} (h1 : (interp fns n).ev fm l = some a) (h2 : (interp fns n).ev fm r = some b) (h : binop op a b = some c) : (interp fns (n + 1)).ev fm (.BinOp l op r p) = some c := by
  rw [ev_bin, h1, h2]; exact h
theorem e_neg {e : Expr} {p : Pos} {fm : Fm} {i : Int} (h1 : (interp fns n).ev fm e = some (.int i)) : (interp fns (n + 1)).ev fm (.UnaryOp .USub e p) = some (.int (-i)) := by
  show (match (interp fns n).ev fm e with | some (.int i) => some (PV.int (-i)) | _ => none) = _
  rw [h1]
theorem e_cmp {l r : Expr} {op : CmpOp} {p : Pos} {fm : Fm} {a b : PV} {c : Bool} (h1 : (interp fns n).ev fm l = some a) (h2 : (interp fns n).ev fm r = some b) (h : cmpop op a b = some c) : (interp fns (n + 1)).ev fm (.Compare l [op] [r] p) = some (.bool c) := by
  show (((interp fns n).ev fm l).bind fun a => ((interp fns n).ev fm r).bind fun b => (cmpop op a b).map PV.bool) = _
  rw [h1, h2]
  show (cmpop op a b).map PV.bool = _
  rw [h]; rfl
theorem e_sub {v i : Expr} {p : Pos} {fm : Fm} {o k r : PV} (h : notSlice i = true) (h1 : (interp fns n).ev fm v = some o) (h2 : (interp fns n).ev fm i = some k) (h3 : subscr o k = some r) : (interp fns (n + 1)).ev fm (.Subscript v i p) = some r := by
  have e : (interp fns (n + 1)).ev fm (.Subscript v i p) = ((interp fns n).ev fm v).bind fun o => ((interp fns n).ev fm i).bind fun k => subscr o k := by
    cases i <;> first | rfl | exact absurd h Bool.false_ne_true
  rw [e, h1, h2]; exact h3
theorem e_slice {v : Expr} {lo hi : Option Expr} {p p2 : Pos} {fm : Fm} {o r : PV} {l h : Option Int} (h1 : (interp fns n).ev fm v = some o) (h2 : optI (interp fns n).ev fm lo = some l) (h3 : optI (interp fns n).ev fm hi = some h) (h4 : slicing o l h = some r) : (interp fns (n + 1)).ev fm (.Subscript v (.Slice lo hi none p2) p) = some r := by
  show (((interp fns n).ev fm v).bind fun o => (optI (interp fns n).ev fm lo).bind fun l => (optI (interp fns n).ev fm hi).bind fun h => slicing o l h) = _
  rw [h1, h2, h3]; exact h4
theorem o_none {ev : EV} {fm : Fm} : optI ev fm none = some none := rfl
theorem o_some {ev : EV} {fm : Fm} {e : Expr} {i : Int} (h : ev fm e = some (.int i)) : optI ev fm (some e) = some (some i) := by
  show (match ev fm e with | some (.int i) => some (some i) | _ => none) = _
  rw [h]
theorem ev_call {f : Str} {p1 p2 : Pos} {es : List Expr} (hi : f ≠ ("isinstance" : Str)) : (interp fns (n + 1)).ev ⟨N, vs⟩ (.Call (.Name f p1) es [] p2) = if isGlob (N.lookup f) = true ∧ f ≠ ("__debug__" : Str) then
      (if es.length ≤ 20 ∧ es ≠ [] then (evArgs (interp fns n).ev ⟨N, vs⟩ es).bind fun as => if (fns f).isSome = true then (interp fns n).cl f as else bcall f as else none) else none := by
  refine Eq.trans (b := if isGlob (N.lookup f) = true ∧ f ≠ ("__debug__" : Str) then (if f = ("isinstance" : Str) then _ else if es.length ≤ 20 ∧ es ≠ [] then (evArgs (interp fns n).ev ⟨N, vs⟩ es).bind fun as => if (fns f).isSome = true then (interp fns n).cl f as else bcall f as else none) else none) rfl ?_
  rw [if_neg hi]
theorem e_callb {f : Str} {p1 p2 : Pos} {es : List Expr} {as : List PV} {r : PV} (h1 : (isGlob (N.lookup f) && decide (f ≠ ("__debug__" : Str)) && decide (f ≠ ("isinstance" : Str))) = true) (h2 : (decide (es.length ≤ 20) && !es.isEmpty) = true) (h0 : fns f = none)
    (h3 : evArgs (interp fns n).ev ⟨N, vs⟩ es = some as) (h4 : bcall f as = some r) : (interp fns (n + 1)).ev ⟨N, vs⟩ (.Call (.Name f p1) es [] p2) = some r := by
  simp only [Bool.and_eq_true, decide_eq_true_eq, Bool.not_eq_true', List.isEmpty_eq_false_iff] at h1 h2
  rw [ev_call h1.2, if_pos h1.1, if_pos h2, h3, h0]
  exact h4
theorem e_callf {f : Str} {p1 p2 : Pos} {es : List Expr} {as : List PV} {r : PV} {d : Def} (h1 : (isGlob (N.lookup f) && decide (f ≠ ("__debug__" : Str)) && decide (f ≠ ("isinstance" : Str))) = true) (h2 : (decide (es.length ≤ 20) && !es.isEmpty) = true) (h0 : fns f = some d)
    (h3 : evArgs (interp fns n).ev ⟨N, vs⟩ es = some as) (h4 : (interp fns n).cl f as = some r) : (interp fns (n + 1)).ev ⟨N, vs⟩ (.Call (.Name f p1) es [] p2) = some r := by
  simp only [Bool.and_eq_true, decide_eq_true_eq, Bool.not_eq_true', List.isEmpty_eq_false_iff] at h1 h2
  rw [ev_call h1.2, if_pos h1.1, if_pos h2, h3, h0]
  exact h4
theorem e_call_none {f : Str} {p1 p2 : Pos} {es : List Expr} (h1 : f ≠ ("isinstance" : Str)) (h : mapO ((interp fns n).ev ⟨N, vs⟩) es = none) : (interp fns (n + 1)).ev ⟨N, vs⟩ (.Call (.Name f p1) es [] p2) = none := by
  have e : evArgs (interp fns n).ev ⟨N, vs⟩ es = none := by unfold evArgs; rw [h]; exact ite_self _
  rw [ev_call h1, e]
  show (if _ then (if _ then none else none) else none) = _
  rw [ite_self, ite_self]
theorem e_isbytes {e : Expr} {p1 p2 p3 : Pos} {b : List UInt8} (h1 : (isGlob (N.lookup (S "isinstance")) && isGlob (N.lookup (S "bytes"))) = true) (h2 : noStar e = true) (h : (interp fns n).ev ⟨N, vs⟩ e = some (.bytes b)) :
    (interp fns (n + 1)).ev ⟨N, vs⟩ (.Call (.Name (S "isinstance") p1) [e, .Name (S "bytes") p3] [] p2) = some (.bool true) := by
  rw [Bool.and_eq_true] at h1
  refine Eq.trans (b := if isGlob (N.lookup (S "isinstance")) = true ∧ S "isinstance" ≠ ("__debug__" : Str) then (if S "isinstance" = ("isinstance" : Str) then (if S "bytes" = ("bytes" : Str) ∧ isGlob (N.lookup (S "bytes")) = true ∧ noStar e = true then (match (interp fns n).ev ⟨N, vs⟩ e with | some (.bytes _) => some (.bool true) | _ => none) else none) else _) else none) rfl ?_
  rw [if_pos ⟨h1.1, by decide +kernel⟩, if_pos rfl, if_pos ⟨rfl, h1.2, h2⟩, h]
theorem e_list {es : List Expr} {p : Pos} {fm : Fm} {as : List PV} (h : evArgs (interp fns n).ev fm es = some as) (hl : as.length ≤ lim) : (interp fns (n + 1)).ev fm (.List es p) = some (.list as) := by
  show ((evArgs (interp fns n).ev fm es).bind fun as => if as.length ≤ lim then some (PV.list as) else none) = _
  rw [h]; exact if_pos hl
theorem e_tup {es : List Expr} {p : Pos} {k : Nat} {fm : Fm} {as : List PV} (h : evArgs (interp fns n).ev fm es = some as) (hl : as.length ≤ lim) : (interp fns (n + 1)).ev fm (.Tuple es k p) = some (.tup as) := by
  show ((evArgs (interp fns n).ev fm es).bind fun as => if as.length ≤ lim then some (PV.tup as) else none) = _
  rw [h]; exact if_pos hl
end
end Mine
end
section
open PySem PySem.W PyProof.Rows
set_option Elab.async false
set_option maxRecDepth 100000
set_option linter.unusedVariables false
set_option linter.unusedSimpArgs false
namespace Mine
noncomputable abbrev SS (fns : Str → Option Def) (n : Nat) := stepS (interp fns n).ev (interp fns n).tr (interp fns n).ex n
section
variable {fns : Str → Option Def} {n : Nat} {N : List (Str × NameKind)} {vs : List (Str × Ent)} {fm fm' : Fm}
/-! statements -/
theorem x_nil : (interp fns (n + 1)).ex fm [] = some (fm, .next) := rfl
theorem x_seq {st : Stmt} {r : List Stmt} {z : Fm × Fl} (h : SS fns n fm st = some (fm', .next)) (k : (interp fns (n + 1)).ex fm' r = some z) : (interp fns (n + 1)).ex fm (st :: r) = some z := by
  show (match SS fns n fm st with | none => none | some (fm', .ret p) => some (fm', Fl.ret p) | some (fm', .next) => stepL (SS fns n) r fm') = _
  rw [h]; exact k
theorem x_one {st : Stmt} (h : SS fns n fm st = some (fm', .next)) : (interp fns (n + 1)).ex fm [st] = some (fm', .next) := x_seq h x_nil
theorem x_ret {st : Stmt} {r : List Stmt} {p : PV} (h : SS fns n fm st = some (fm', .ret p)) : (interp fns (n + 1)).ex fm (st :: r) = some (fm', .ret p) := by
  show (match SS fns n fm st with | none => none | some (fm', .ret p) => some (fm', Fl.ret p) | some (fm', .next) => stepL (SS fns n) r fm') = _
  rw [h]
theorem f_call {f : Str} {d : Def} {as : List PV} {p : PV} (h : fns f = some d) (hl : as.length = d.params.length) (k : (interp fns n).ex ⟨d.scope.names, d.params.zip (as.map Ent.val)⟩ d.body = some (fm, .ret p)) : (interp fns (n + 1)).cl f as = some p := by
  rw [cl_eq, h]; exact callD_ret hl k
noncomputable def plainA : Expr → Bool
  | .ListComp .. => false
  | .SetComp .. => false
  | .DictComp .. => false
  | .List [] _ => false
  | .Call (.Name f _) [_] [] _ => decide (f ≠ ("bytearray" : Str))
  | .Call (.Name f _) [_, _] [] _ => decide (f ≠ ("zip" : Str))
  | _ => true
theorem ft {p : Prop} (h : false = true) : p := absurd h Bool.false_ne_true
theorem ss_assign {x : Str} {e : Expr} {p1 p2 : Pos} {ev : EV} {tr : TV} {ex : XV} (h : plainA e = true) : stepS ev tr ex n fm (.Assign [.Name x p1] e p2) = (evz ev fm e).bind fun r => (r.1.set x (.val r.2)).map fun fm => (fm, .next) := by
  cases e
  case Call f es ks pos =>
    cases f
    case Name f fp =>
      cases es with
      | nil => rfl
      | cons a es =>
        cases es with
        | nil =>
          cases ks with
          | cons k ks => rfl
          | nil => exact if_neg (of_decide_eq_true (show decide (f ≠ ("bytearray" : Str)) = true from h))
        | cons b es =>
          cases es with
          | cons c es => rfl
          | nil =>
            cases ks with
            | cons k ks => rfl
            | nil => exact if_neg (of_decide_eq_true (show decide (f ≠ ("zip" : Str)) = true from h))
    all_goals rfl
  case List es pos =>
    cases es with
    | nil => exact ft h
    | cons a es => rfl
  all_goals first | rfl | exact ft h
theorem evz_some {ev : EV} {e : Expr} {p : PV} (h : ev fm e = some p) : evz ev fm e = some (fm, p) := by unfold evz; rw [h]
theorem evz_frz {ev : EV} {e : Expr} {p : PV} (h : ev fm e = none) (k : ev fm.frz e = some p) : evz ev fm e = some (fm.frz, p) := by unfold evz; rw [h]; simp only [k]; rfl
theorem set_ok {x : Str} {e : Ent} (h : storable (N.lookup x) = true) : Fm.set ⟨N, vs⟩ x e = some ⟨N, setE vs x e⟩ := by unfold Fm.set; rw [if_pos (show storable (Fm.kind ⟨N, vs⟩ x) = true from h)]
theorem s_asg {x : Str} {e : Expr} {p1 p2 : Pos} {v : PV} (h : plainA e = true) (h1 : storable (N.lookup x) = true) (k : (interp fns n).ev ⟨N, vs⟩ e = some v) : SS fns n ⟨N, vs⟩ (.Assign [.Name x p1] e p2) = some (⟨N, setE vs x (.val v)⟩, .next) := by
  unfold SS; rw [ss_assign h, evz_some k]; simp only [Option.bind_some]; rw [set_ok h1]; rfl
theorem s_asgz {x : Str} {e : Expr} {p1 p2 : Pos} {v : PV} (h : plainA e = true) (h1 : storable (N.lookup x) = true) (k : (interp fns n).ev ⟨N, vs⟩ e = none) (k2 : (interp fns n).ev ⟨N, frzAll vs⟩ e = some v) : SS fns n ⟨N, vs⟩ (.Assign [.Name x p1] e p2) = some (⟨N, setE (frzAll vs) x (.val v)⟩, .next) := by
  unfold SS; rw [ss_assign h, evz_frz k k2]; simp only [Option.bind_some]; rw [show Fm.frz ⟨N, vs⟩ = ⟨N, frzAll vs⟩ from rfl, set_ok h1]; rfl
theorem s_nil {x : Str} {p1 p2 p3 : Pos} (h1 : storable (N.lookup x) = true) : SS fns n ⟨N, vs⟩ (.Assign [.Name x p1] (.List [] p3) p2) = some (⟨N, setE vs x (.lst [])⟩, .next) := by
  show ((Fm.set ⟨N, vs⟩ x (.lst [])).map fun fm => (fm, Fl.next)) = _
  rw [set_ok h1]; rfl
theorem s_barr {x : Str} {a : Expr} {p1 p2 p3 p4 : Pos} {m : Nat} (h1 : storable (N.lookup x) = true) (h2 : (isGlob (N.lookup (S "bytearray")) && noStar a) = true) (h : (interp fns n).ev ⟨N, vs⟩ a = some (.int m)) (hm : m ≤ 1000) :
    SS fns n ⟨N, vs⟩ (.Assign [.Name x p1] (.Call (.Name (S "bytearray") p3) [a] [] p4) p2) = some (⟨N, setE vs x (.arr (List.replicate m 0))⟩, .next) := by
  rw [Bool.and_eq_true] at h2
  have hm2 : (m : Int) ≤ 100000 := by omega
  show (if isGlob (N.lookup (S "bytearray")) = true ∧ noStar a = true then (match (interp fns n).ev ⟨N, vs⟩ a with
    | some (.int n) => if 0 ≤ n ∧ n ≤ 100000 then (Fm.set ⟨N, vs⟩ x (.arr (List.replicate n.toNat 0))).map fun fm => (fm, Fl.next) else none
    | _ => none) else none) = _
  rw [if_pos ⟨h2.1, h2.2⟩, h]
  dsimp only
  rw [if_pos ⟨Int.natCast_nonneg _, hm2⟩, set_ok h1]
  rfl
theorem s_aug {x : Str} {e : Expr} {op : Operator} {p1 p2 : Pos} {a b : Int} {r : PV} (h0 : (match op with | .Add | .Sub | .FloorDiv => true | _ => false) = true) (h1 : (storable (N.lookup x) && loadable (N.lookup x)) = true) (hx : lookE vs x = some (.val (.int a))) (h : (interp fns n).ev ⟨N, vs⟩ e = some (.int b)) (hb : binop op (.int a) (.int b) = some r) :
    SS fns n ⟨N, vs⟩ (.AugAssign (.Name x p1) op e p2) = some (⟨N, setE vs x (.val r)⟩, .next) := by
  rw [Bool.and_eq_true] at h1
  have e1 : SS fns n ⟨N, vs⟩ (.AugAssign (.Name x p1) op e p2) = if loadable (N.lookup x) = true then (match lookE vs x with
      | some (.val (.int a)) => (match (interp fns n).ev ⟨N, vs⟩ e with
        | some (.int b) => (match op with
          | .Add | .Sub | .FloorDiv => (binop op (.int a) (.int b)).bind fun r => (Fm.set ⟨N, vs⟩ x (.val r)).map fun fm => (fm, Fl.next)
          | _ => none)
        | _ => none)
      | _ => none) else none := rfl
  rw [e1, if_pos h1.2, hx, h]
  cases op
  all_goals first | (exact ft h0) | (dsimp only; rw [hb]; dsimp only [Option.bind_some]; rw [set_ok h1.1]; rfl)
theorem s_app {x : Str} {e : Expr} {p1 p2 p3 p4 : Pos} {ps : List PV} {v : PV} (h1 : (loadable (N.lookup x) && decide (x ≠ ("__debug__" : Str)) && noStar e && (p2.endLine == p3.line)) = true) (hx : lookE vs x = some (.lst ps)) (h : (interp fns n).ev ⟨N, vs⟩ e = some v) (hl : ps.length ≤ lim) :
    SS fns n ⟨N, vs⟩ (.Expr (.Call (.Attribute (.Name x p1) (S "append") p2) [e] [] p3) p4) = some (⟨N, setE vs x (.lst (ps ++ [v]))⟩, .next) := by
  simp only [Bool.and_eq_true, decide_eq_true_eq] at h1
  have e1 : SS fns n ⟨N, vs⟩ (.Expr (.Call (.Attribute (.Name x p1) (S "append") p2) [e] [] p3) p4) = if loadable (N.lookup x) = true ∧ x ≠ ("__debug__" : Str) ∧ S "append" = ("append" : Str) ∧ noStar e = true ∧ (p2.endLine == p3.line) = true then (match lookE vs x, (interp fns n).ev ⟨N, vs⟩ e with
      | some (.lst ps), some p => if ps.length ≤ lim then some ((⟨N, setE vs x (.lst (ps ++ [p]))⟩ : Fm), Fl.next) else none
      | _, _ => none) else none := rfl
  rw [e1, if_pos ⟨h1.1.1.1, h1.1.1.2, rfl, h1.1.2, h1.2⟩, hx, h]
  exact if_pos hl
theorem s_ifT {t : Expr} {a b : List Stmt} {p : Pos} {z : Fm × Fl} (h : (interp fns n).tr fm t = some true) (k : (interp fns n).ex fm a = some z) : SS fns n fm (.If t a b p) = some z := by
  show (match (interp fns n).tr fm t with | some true => (interp fns n).ex fm a | some false => (interp fns n).ex fm b | none => none) = _
  rw [h]; exact k
theorem s_ifF {t : Expr} {a b : List Stmt} {p : Pos} {z : Fm × Fl} (h : (interp fns n).tr fm t = some false) (k : (interp fns n).ex fm b = some z) : SS fns n fm (.If t a b p) = some z := by
  show (match (interp fns n).tr fm t with | some true => (interp fns n).ex fm a | some false => (interp fns n).ex fm b | none => none) = _
  rw [h]; exact k
theorem s_ret {e : Expr} {p : Pos} {v : PV} (k : (interp fns n).ev fm e = some v) : SS fns n fm (.Return (some e) p) = some (fm, .ret v) := by
  show ((evz (interp fns n).ev fm e).map fun r => (r.1, Fl.ret r.2)) = _
  rw [evz_some k]; rfl
theorem s_retz {e : Expr} {p : Pos} {v : PV} (k : (interp fns n).ev ⟨N, vs⟩ e = none) (k2 : (interp fns n).ev ⟨N, frzAll vs⟩ e = some v) : SS fns n ⟨N, vs⟩ (.Return (some e) p) = some (⟨N, frzAll vs⟩, .ret v) := by
  show ((evz (interp fns n).ev ⟨N, vs⟩ e).map fun r => (r.1, Fl.ret r.2)) = _
  rw [evz_frz k k2]; rfl
theorem s_for {tgt it : Expr} {body : List Stmt} {p : Pos} {its : List PV} {z : Fm × Fl} (h : iterP (interp fns n).ev tgt fm it = some its) (k : forL (interp fns n).ex tgt body its fm = some z) : SS fns n fm (.For tgt it body [] p) = some z := by
  have e1 : iterz (interp fns n).ev tgt fm it = some (fm, its) := by unfold iterz; rw [h]
  show ((iterz (interp fns n).ev tgt fm it).bind fun r => forL (interp fns n).ex tgt body r.2 r.1) = _
  rw [e1]; exact k
theorem s_while {t : Expr} {body : List Stmt} {p : Pos} {z : Fm × Fl} (k : whileL (interp fns n).tr (interp fns n).ex t body n fm = some z) : SS fns n fm (.While t body [] p) = some z := by
  exact k
noncomputable def notZip : Expr → Bool
  | .Call (.Name z _) [_, _] [] _ => decide (z ≠ ("zip" : Str))
  | .Set .. => false
  | _ => true
theorem p_eq {ev : EV} {tgt it : Expr} (h : notZip it = true) : iterP ev tgt fm it = ((ev fm it).bind items).bind (guardI tgt) := by
  cases it
  case Call f es ks pos =>
    cases f
    case Name f fp =>
      cases es with
      | nil => rfl
      | cons a es =>
        cases es with
        | nil => rfl
        | cons b es =>
          cases es with
          | cons c es => rfl
          | nil =>
            cases ks with
            | cons k ks => rfl
            | nil => exact if_neg (of_decide_eq_true (show decide (f ≠ ("zip" : Str)) = true from h))
    all_goals rfl
  all_goals first | rfl | exact ft h
theorem p_gen {ev : EV} {tgt it : Expr} {v : PV} {its : List PV} (h : notZip it = true) (h1 : ev fm it = some v) (h2 : items v = some its) (h3 : okItems tgt its = true) : iterP ev tgt fm it = some its := by
  rw [p_eq h, h1]
  show (items v).bind (guardI tgt) = _
  rw [h2]
  exact if_pos h3
theorem p_zip {tgt a b : Expr} {p1 p2 : Pos} {xs ys : List PV} (h : (isTupE tgt && isGlob (N.lookup (S "zip")) && noStar a && noStar b) = true) (h1 : (interp fns n).ev ⟨N, vs⟩ a = some (.list xs)) (h2 : (interp fns n).ev ⟨N, vs⟩ b = some (.list ys)) (hx : xs.length ≤ lim) (hy : ys.length ≤ lim) :
    iterP (interp fns n).ev tgt ⟨N, vs⟩ (.Call (.Name (S "zip") p1) [a, b] [] p2) = some (zips xs ys) := by
  simp only [Bool.and_eq_true] at h
  show (if isTupE tgt = true ∧ isGlob (N.lookup (S "zip")) = true ∧ noStar a = true ∧ noStar b = true then (match (interp fns n).ev ⟨N, vs⟩ a, (interp fns n).ev ⟨N, vs⟩ b with
    | some (.list xs), some (.list ys) => if xs.length ≤ lim ∧ ys.length ≤ lim then some (zips xs ys) else none
    | _, _ => none) else none) = _
  rw [if_pos ⟨h.1.1.1, h.1.1.2, h.1.2, h.2⟩, h1, h2]
  exact if_pos ⟨hx, hy⟩
/-! tests -/
theorem t_cmp {l r : Expr} {op : CmpOp} {p : Pos} {c : Bool} (h : (interp fns n).ev fm (.Compare l [op] [r] p) = some (.bool c)) : (interp fns (n + 1)).tr fm (.Compare l [op] [r] p) = some c := by
  show (match (interp fns n).ev fm (.Compare l [op] [r] p) with | some (.bool b) => some b | _ => none) = _
  rw [h]
theorem t_call {f : Expr} {as : List Expr} {p : Pos} {c : Bool} (h : (interp fns n).ev fm (.Call f as [] p) = some (.bool c)) : (interp fns (n + 1)).tr fm (.Call f as [] p) = some c := by
  show (match (interp fns n).ev fm (.Call f as [] p) with | some (.bool b) => some b | _ => none) = _
  rw [h]
theorem t_not {e : Expr} {p : Pos} {c : Bool} (h : (interp fns n).tr fm e = some c) : (interp fns (n + 1)).tr fm (.UnaryOp .Not e p) = some (!c) := by
  show ((interp fns n).tr fm e).map not = _
  rw [h]; rfl
theorem or_nil {tr : TV} : trOr tr fm [] = some false := by simp only [trOr]
theorem or_cons {tr : TV} {e : Expr} {r : List Expr} {a b : Bool} (h : tr fm e = some a) (k : trOr tr fm r = some b) : trOr tr fm (e :: r) = some (a || b) := by
  simp only [trOr]; rw [h]; cases a
  · exact k
  · rfl
theorem t_or {es : List Expr} {p : Pos} {c : Bool} (h : trOr (interp fns n).tr fm es = some c) : (interp fns (n + 1)).tr fm (.BoolOp .Or es p) = some c := by
  exact h
theorem q_eq {a b : Int} : cmpop .Eq (.int a) (.int b) = some (a == b) := by unfold cmpop; rfl
theorem q_ne {a b : Int} : cmpop .NotEq (.int a) (.int b) = some (a != b) := by unfold cmpop; rfl
theorem q_lt {a b : Int} : cmpop .Lt (.int a) (.int b) = some (decide (a < b)) := by unfold cmpop; rfl
theorem q_gt {a b : Int} : cmpop .Gt (.int a) (.int b) = some (decide (a > b)) := by unfold cmpop; rfl
theorem q_le {a b : Int} : cmpop .LtE (.int a) (.int b) = some (decide (a ≤ b)) := by unfold cmpop; rfl
theorem q_ge {a b : Int} : cmpop .GtE (.int a) (.int b) = some (decide (a ≥ b)) := by unfold cmpop; rfl
theorem q_eqb {a b : List UInt8} : cmpop .Eq (.bytes a) (.bytes b) = some (a == b) := by unfold cmpop; rfl
theorem q_neb {a b : List UInt8} : cmpop .NotEq (.bytes a) (.bytes b) = some (a != b) := by unfold cmpop; rfl
theorem q_nel {xs ys : List PV} {a b : List Int} (h1 : asInts xs = some a) (h2 : asInts ys = some b) : cmpop .NotEq (.list xs) (.list ys) = some (!decide (a = b)) := by
  show (match asInts xs, asInts ys with
    | some a, some b => some (!decide (a = b))
    | _, _ => none) = _
  rw [h1, h2]
theorem q_neli {a b : List Int} : cmpop .NotEq (.list (intVals a)) (.list (intVals b)) = some (!decide (a = b)) := q_nel (asInts_vals a) (asInts_vals b)
/-! comprehensions -/
theorem e_comp {elt : Expr} {gens : List Comprehension} {sc : Scope} {p : Pos} {ps : List PV} (h : comp (interp fns n).ev fm elt gens sc = some ps) : (interp fns (n + 1)).ev fm (.ListComp elt gens sc p) = some (.list ps) := by
  show (comp (interp fns n).ev fm elt gens sc).map PV.list = _
  rw [h]; rfl
theorem scopeOk_vs {sc : Scope} (h : scopeOk ⟨N, []⟩ sc = true) : scopeOk ⟨N, vs⟩ sc = true := h
theorem mapO_map {α β γ : Type} {f : β → Option γ} {u : α → β} {g : α → γ} : ∀ {L : List α}, (∀ a ∈ L, f (u a) = some (g a)) → mapO f (L.map u) = some (L.map g)
  | [], _ => m_nil
  | a :: l, h => m_cons (h a List.mem_cons_self) (mapO_map fun b hb => h b (List.mem_cons_of_mem _ hb))
theorem comp1 {α : Type} {ev : EV} {x : Str} {xp : Pos} {it elt : Expr} {sc : Scope} {u g : α → PV} {L : List α} (h1 : scopeOk ⟨N, []⟩ sc = true) (h2 : (notSet it && storable (sc.names.lookup x) && decide ((x, NameKind.free) ∉ sc.names)) = true)
    (h3 : iterP ev (.Name x xp) ⟨N, vs⟩ it = some (L.map u)) (hl : L.length ≤ lim) (h4 : ∀ a ∈ L, ev ⟨sc.names, setE (caught sc.names ⟨N, vs⟩ sc.names) x (.val (u a))⟩ elt = some (g a)) : comp ev ⟨N, vs⟩ elt [⟨.Name x xp, it, [], 0⟩] sc = some (L.map g) := by
  simp only [Bool.and_eq_true, decide_eq_true_eq] at h2
  unfold comp
  simp only
  rw [if_pos ⟨scopeOk_vs h1, trivial, h2.1.1⟩, h3]
  simp only [Option.bind_some]
  unfold compL
  have hf : freshT (.Name x xp) (compFm sc ⟨N, vs⟩) = true := by
    show (lookE (caught sc.names ⟨N, vs⟩ sc.names) x).isNone = true
    rw [cg_none h2.2]; rfl
  rw [if_pos ⟨rfl, rfl, hf⟩]
  simp only
  rw [mapO_map (g := g) fun a ha => ?_]
  · simp only [Option.bind_some]
    rw [if_pos (by rw [List.length_map]; exact hl)]
  · show ((Fm.set ⟨sc.names, caught sc.names ⟨N, vs⟩ sc.names⟩ x (.val (u a))).bind fun fm' => ev fm' elt) = _
    rw [set_ok h2.1.2]
    exact h4 a ha
end
end Mine
end
section
open PySem PySem.W PyProof.Rows
set_option Elab.async false
set_option maxRecDepth 100000
set_option linter.unusedVariables false
namespace Mine
/-! parts of a body -/
noncomputable def nth : List Stmt → Nat → Stmt
  | [], _ => .Pass default
  | s :: _, 0 => s
  | _ :: r, i + 1 => nth r i
noncomputable def inner : Stmt → List Stmt
  | .For _ _ b _ _ => b
  | .While _ b _ _ => b
  | _ => []
noncomputable def forTgt : Stmt → Expr
  | .For t _ _ _ _ => t
  | _ => .Constant .none 0 default
noncomputable def nmPos : Expr → Pos
  | .Name _ p => p
  | _ => default
noncomputable def forIt : Stmt → Expr
  | .For _ t _ _ _ => t
  | _ => .Constant .none 0 default
noncomputable def ifTest : Stmt → Expr
  | .If t _ _ _ => t
  | .While t _ _ _ => t
  | _ => .Constant .none 0 default
noncomputable def thenB : Stmt → List Stmt
  | .If _ a _ _ => a
  | _ => []
noncomputable def elseB : Stmt → List Stmt
  | .If _ _ a _ => a
  | _ => []
/-- the frames of a function's own scope -/
noncomputable abbrev Vs := List (Str × Ent)
/-- a loop's result by what holds between the turns, with the frame's names fixed -/
theorem loop_inv {ex : XV} {x : Str} {xp : Pos} {body : List Stmt} {N : List (Str × NameKind)} {α : Type} (u : α → PV) (I : List α → Vs → Prop) (hx : storable (N.lookup x) = true) : ∀ (L pre : List α) (vs : Vs),
    (∀ pre a post vs, pre ++ a :: post = L → I pre vs → ∃ vs', ex ⟨N, setE vs x (.val (u a))⟩ body = some (⟨N, vs'⟩, .next) ∧ I (pre ++ [a]) vs') → I [] vs → ∃ vs', forL ex (.Name x xp) body (L.map u) ⟨N, vs⟩ = some (⟨N, vs'⟩, .next) ∧ I L vs' := by
  intro L pre0 vs0 st h0
  have key : ∀ (post pre : List α) (vs : Vs), pre ++ post = L → I pre vs → ∃ vs', forL ex (.Name x xp) body (post.map u) ⟨N, vs⟩ = some (⟨N, vs'⟩, .next) ∧ I L vs' := by
    intro post
    induction post with
    | nil =>
      intro pre vs e h
      rw [List.append_nil] at e
      subst e
      exact ⟨vs, by simp only [List.map_nil, forL], h⟩
    | cons a post ih =>
      intro pre vs e h
      obtain ⟨vs1, e1, h1⟩ := st pre a post vs e h
      obtain ⟨vs2, e2, h2⟩ := ih (pre ++ [a]) vs1 (by rw [List.append_assoc]; exact e) h1
      refine ⟨vs2, ?_, h2⟩
      show (match Fm.set ⟨N, vs⟩ x (.val (u a)) with | none => none | some fm' => (match ex fm' body with | none => none | some (fm'', .ret p) => some (fm'', Fl.ret p) | some (fm'', .next) => forL ex (.Name x xp) body (post.map u) fm'')) = _
      rw [set_ok hx]
      dsimp only
      rw [e1]
      exact e2
  exact key L [] vs0 rfl h0
theorem loop_range {ex : XV} {x : Str} {xp : Pos} {body : List Stmt} {N : List (Str × NameKind)} {a c : Int} {m : Nat} (I : Nat → Vs → Prop) (hx : storable (N.lookup x) = true) (vs : Vs)
    (st : ∀ i vs, i < m → I i vs → ∃ vs', ex ⟨N, setE vs x (.val (.int (a + (i : Int) * c)))⟩ body = some (⟨N, vs'⟩, .next) ∧ I (i + 1) vs') (h0 : I 0 vs) : ∃ vs', forL ex (.Name x xp) body (rangeItems a c m) ⟨N, vs⟩ = some (⟨N, vs'⟩, .next) ∧ I m vs' := by
  have := loop_inv (ex := ex) (x := x) (xp := xp) (body := body) (N := N) (fun i : Nat => PV.int (a + (i : Int) * c)) (fun pre vs => I pre.length vs) hx (List.range m) [] vs (fun pre i post vs e h => ?_) h0
  · rw [List.length_range] at this; exact this
  · have hi : i = pre.length := by
      have h1 : (List.range m)[pre.length]? = some i := by rw [← e]; simp
      have h2 := List.getElem?_eq_some_iff.mp h1
      obtain ⟨h2, h3⟩ := h2
      simpa using h3.symm
    have hl : pre.length + (post.length + 1) = m := by
      have := congrArg List.length e
      simpa using this
    subst hi
    rw [List.length_append]
    exact st pre.length vs (by omega) h
end Mine
end
section
open PySem PySem.W PyProof.Rows
set_option Elab.async false
set_option maxRecDepth 100000
set_option linter.unusedVariables false
set_option linter.unusedSimpArgs false
namespace Mine
section
variable {fns : Str → Option Def} {n : Nat} {N : List (Str × NameKind)} {vs : List (Str × Ent)} {fm fm' : Fm}
theorem range01 {m : Nat} : rangeItems 0 1 m = (List.range m).map fun i : Nat => PV.int i := by
  unfold rangeItems; simp
theorem it_nat {m : Nat} (h : m ≤ 1000) : items (.rng 0 (m : Int) 1) = some ((List.range m).map fun i : Nat => PV.int i) := by rw [it_one h, range01]
theorem it_grp {m w : Nat} (hw : 0 < w) (h : w * m ≤ 1000) (h' : w ≤ 1000) : items (.rng 0 ((w * m : Nat) : Int) (w : Int)) = some ((List.range m).map fun i : Nat => PV.int ((w * i : Nat) : Int)) := by
  rw [it_mul hw h h']
  unfold rangeItems
  congr 1
  refine List.map_congr_left fun i _ => ?_
  rw [Int.zero_add, Int.natCast_mul, Int.mul_comm]
theorem b_powN {a : Int} {m : Nat} (h1 : m ≤ 1000) (h2 : smallI a = true) : binop .Pow (.int a) (.int (m : Int)) = some (.int (a ^ m)) := by
  rw [b_pow (Int.natCast_nonneg _) (by omega) h2, Int.toNat_natCast]
/-- a comprehension over pairs -/
theorem compP {α : Type} {ev : EV} {x y : Str} {xp yp p : Pos} {k : Nat} {it elt : Expr} {sc : Scope} {u u2 g : α → PV} {L : List α} (h1 : scopeOk ⟨N, []⟩ sc = true)
    (h2 : (notSet it && storable (sc.names.lookup x) && storable (sc.names.lookup y) && decide ((x, NameKind.free) ∉ sc.names) && decide ((y, NameKind.free) ∉ sc.names) && (x != y)) = true)
    (h3 : iterP ev (.Tuple [.Name x xp, .Name y yp] k p) ⟨N, vs⟩ it = some (L.map fun a => .tup [u a, u2 a])) (hl : L.length ≤ lim)
    (h5 : ∀ a ∈ L, ev ⟨sc.names, setE (setE (caught sc.names ⟨N, vs⟩ sc.names) x (.val (u a))) y (.val (u2 a))⟩ elt = some (g a)) :
    comp ev ⟨N, vs⟩ elt [⟨.Tuple [.Name x xp, .Name y yp] k p, it, [], 0⟩] sc = some (L.map g) := by
  simp only [Bool.and_eq_true, decide_eq_true_eq] at h2
  obtain ⟨⟨⟨⟨⟨k1, k3⟩, k4⟩, k5⟩, k6⟩, k7⟩ := h2
  unfold comp
  simp only
  rw [if_pos ⟨scopeOk_vs h1, trivial, k1⟩, h3]
  simp only [Option.bind_some]
  unfold compL
  have hf : freshT (.Tuple [.Name x xp, .Name y yp] k p) (compFm sc ⟨N, vs⟩) = true := by
    show ((lookE (caught sc.names ⟨N, vs⟩ sc.names) x).isNone && (lookE (caught sc.names ⟨N, vs⟩ sc.names) y).isNone && x != y) = true
    rw [cg_none k5, cg_none k6, k7]; rfl
  rw [if_pos ⟨rfl, rfl, hf⟩]
  simp only
  rw [mapO_map (g := g) fun a ha => ?_]
  · simp only [Option.bind_some]
    rw [if_pos (by rw [List.length_map]; exact hl)]
  · show ((((Fm.set ⟨sc.names, caught sc.names ⟨N, vs⟩ sc.names⟩ x (.val (u a))).bind fun fm => fm.set y (.val (u2 a)))).bind fun fm' => ev fm' elt) = _
    rw [set_ok k3]
    simp only [Option.bind_some]
    rw [set_ok k4]
    exact h5 a ha
noncomputable def nameIt : List Comprehension → Bool
  | [⟨_, .Name _ _, _, _⟩] => true
  | _ => false
theorem as_comp {ev : EV} {x : Str} {elt : Expr} {gens : List Comprehension} {sc : Scope} (h : nameIt gens = false) : assignC ev fm x elt gens sc = (comp ev fm elt gens sc).bind fun ps => (fm.set x (.val (.list ps))).map fun fm => (fm, .next) := by
  cases gens with
  | nil => rfl
  | cons c gens =>
    obtain ⟨tgt, it, ifs, as⟩ := c
    cases it <;> first | rfl | (cases gens <;> first | rfl | exact ft (Eq.symm h))
theorem s_comp {x : Str} {elt : Expr} {gens : List Comprehension} {sc : Scope} {p1 p2 p3 : Pos} {ps : List PV} (h : nameIt gens = false) (h1 : storable (N.lookup x) = true) (k : comp (interp fns n).ev ⟨N, vs⟩ elt gens sc = some ps) :
    SS fns n ⟨N, vs⟩ (.Assign [.Name x p1] (.ListComp elt gens sc p3) p2) = some (⟨N, setE vs x (.val (.list ps))⟩, .next) := by
  refine (as_comp (fm := ⟨N, vs⟩) (ev := (interp fns n).ev) (x := x) (elt := elt) (sc := sc) h).trans ?_
  rw [k]; simp only [Option.bind_some]; rw [set_ok h1]; rfl
theorem as_name {ev : EV} {x q : Str} {elt tgt : Expr} {ifs : List Expr} {as : Int} {sc : Scope} {qp : Pos} : assignC ev ⟨N, vs⟩ x elt [⟨tgt, .Name q qp, ifs, as⟩] sc = (match lookE vs q with
    | some (.zip xs ys) => if isTupE tgt = true ∧ loadable (N.lookup q) = true ∧ scopeOk ⟨N, vs⟩ sc = true ∧ as = 0 ∧ q ≠ ("__debug__" : Str) ∧ sc.names.lookup q ≠ some .free then
        (compL ev elt [⟨tgt, .Name q qp, ifs, as⟩] (compFm sc ⟨N, delE vs q⟩) (zips xs ys)).bind fun ps => if ps.length ≤ lim then
          ((⟨N, delE vs q⟩ : Fm).set x (.val (.list ps))).map fun fm => (fm, .next) else none
      else none
    | _ => (comp ev ⟨N, vs⟩ elt [⟨tgt, .Name q qp, ifs, as⟩] sc).bind fun ps => (Fm.set ⟨N, vs⟩ x (.val (.list ps))).map fun fm => (fm, .next)) := rfl
theorem s_compn {x q : Str} {elt tgt : Expr} {ifs : List Expr} {as : Int} {sc : Scope} {p1 p2 p3 qp : Pos} {ps : List PV} {v : PV} (h : lookE vs q = some (.val v)) (h1 : storable (N.lookup x) = true) (k : comp (interp fns n).ev ⟨N, vs⟩ elt [⟨tgt, .Name q qp, ifs, as⟩] sc = some ps) :
    SS fns n ⟨N, vs⟩ (.Assign [.Name x p1] (.ListComp elt [⟨tgt, .Name q qp, ifs, as⟩] sc p3) p2) = some (⟨N, setE vs x (.val (.list ps))⟩, .next) := by
  refine (as_name (ev := (interp fns n).ev) (x := x) (elt := elt) (sc := sc)).trans ?_
  rw [h]
  dsimp only
  rw [k]; simp only [Option.bind_some]; rw [set_ok h1]; rfl
/-- a comprehension that uses up a zip -/
theorem s_compz {α : Type} {z x y q : Str} {xp yp p p1 p2 p3 qp : Pos} {kk : Nat} {elt : Expr} {sc : Scope} {xs ys : List PV} {u u2 g : α → PV} {L : List α} (hz : lookE vs q = some (.zip xs ys)) (h1 : scopeOk ⟨N, []⟩ sc = true)
    (h2 : (loadable (N.lookup q) && decide (q ≠ ("__debug__" : Str)) && decide (sc.names.lookup q ≠ some .free) && storable (sc.names.lookup x) && storable (sc.names.lookup y) && decide ((x, NameKind.free) ∉ sc.names) && decide ((y, NameKind.free) ∉ sc.names) && (x != y) && storable (N.lookup z)) = true)
    (h3 : zips xs ys = L.map fun a => .tup [u a, u2 a]) (hl : L.length ≤ lim)
    (h5 : ∀ a ∈ L, (interp fns n).ev ⟨sc.names, setE (setE (caught sc.names ⟨N, delE vs q⟩ sc.names) x (.val (u a))) y (.val (u2 a))⟩ elt = some (g a)) :
    SS fns n ⟨N, vs⟩ (.Assign [.Name z p1] (.ListComp elt [⟨.Tuple [.Name x xp, .Name y yp] kk p, .Name q qp, [], 0⟩] sc p3) p2) = some (⟨N, setE (delE vs q) z (.val (.list (L.map g)))⟩, .next) := by
  simp only [Bool.and_eq_true, decide_eq_true_eq] at h2
  obtain ⟨⟨⟨⟨⟨⟨⟨⟨k0, k1⟩, k2⟩, k3⟩, k4⟩, k5⟩, k6⟩, k7⟩, k8⟩ := h2
  refine (as_name (ev := (interp fns n).ev) (x := z) (elt := elt) (sc := sc)).trans ?_
  rw [hz]
  dsimp only
  rw [if_pos ⟨rfl, k0, scopeOk_vs h1, rfl, k1, k2⟩, h3]
  unfold compL
  have hf : freshT (.Tuple [.Name x xp, .Name y yp] kk p) (compFm sc ⟨N, delE vs q⟩) = true := by
    show ((lookE (caught sc.names ⟨N, delE vs q⟩ sc.names) x).isNone && (lookE (caught sc.names ⟨N, delE vs q⟩ sc.names) y).isNone && x != y) = true
    rw [cg_none k5, cg_none k6, k7]; rfl
  rw [if_pos ⟨rfl, rfl, hf⟩]
  simp only
  rw [mapO_map (g := g) fun a ha => ?_]
  · simp only [Option.bind_some]
    rw [if_pos (by rw [List.length_map]; exact hl), set_ok k8]
    rfl
  · show ((((Fm.set ⟨sc.names, caught sc.names ⟨N, delE vs q⟩ sc.names⟩ x (.val (u a))).bind fun fm => fm.set y (.val (u2 a)))).bind fun fm' => (interp fns n).ev fm' elt) = _
    rw [set_ok k3]
    simp only [Option.bind_some]
    rw [set_ok k4]
    exact h5 a ha
end
theorem ints_len {a : List Int} : (intVals a).length = a.length := by simp [intVals]
theorem loop_nat {ex : XV} {x : Str} {xp : Pos} {body : List Stmt} {N : List (Str × NameKind)} {m : Nat} (I : Nat → Vs → Prop) (hx : storable (N.lookup x) = true) (vs : Vs)
    (st : ∀ i vs, i < m → I i vs → ∃ vs', ex ⟨N, setE vs x (.val (.int (i : Int)))⟩ body = some (⟨N, vs'⟩, .next) ∧ I (i + 1) vs') (h0 : I 0 vs) : ∃ vs', forL ex (.Name x xp) body ((List.range m).map fun i : Nat => PV.int i) ⟨N, vs⟩ = some (⟨N, vs'⟩, .next) ∧ I m vs' := by
  have := loop_range (ex := ex) (x := x) (xp := xp) (body := body) (N := N) (a := 0) (c := 1) (m := m) I hx vs (fun i vs hi h => by rw [Int.zero_add, Int.mul_one]; exact st i vs hi h) h0
  rw [range01] at this
  exact this
theorem loop_idx {ex : XV} {x : Str} {xp : Pos} {body : List Stmt} {N : List (Str × NameKind)} {m : Nat} (u : Nat → PV) (I : Nat → Vs → Prop) (hx : storable (N.lookup x) = true) (vs : Vs)
    (st : ∀ i vs, i < m → I i vs → ∃ vs', ex ⟨N, setE vs x (.val (u i))⟩ body = some (⟨N, vs'⟩, .next) ∧ I (i + 1) vs') (h0 : I 0 vs) : ∃ vs', forL ex (.Name x xp) body ((List.range m).map u) ⟨N, vs⟩ = some (⟨N, vs'⟩, .next) ∧ I m vs' := by
  have := loop_inv (ex := ex) (x := x) (xp := xp) (body := body) (N := N) u (fun pre vs => I pre.length vs) hx (List.range m) [] vs (fun pre i post vs e h => ?_) h0
  · rw [List.length_range] at this; exact this
  · have hi : i = pre.length := by
      have h1 : (List.range m)[pre.length]? = some i := by rw [← e]; simp
      have h2 := List.getElem?_eq_some_iff.mp h1
      obtain ⟨h2, h3⟩ := h2
      simpa using h3.symm
    have hl : pre.length + (post.length + 1) = m := by
      have := congrArg List.length e
      simpa using this
    subst hi
    rw [List.length_append]
    exact st pre.length vs (by omega) h
/-- a while loop by what holds and what falls -/
theorem loop_while {tr : TV} {ex : XV} {t : Expr} {body : List Stmt} {N : List (Str × NameKind)} (J : Nat → Vs → Prop) (hz : ∀ vs, J 0 vs → tr ⟨N, vs⟩ t = some false)
    (hs : ∀ m vs, J (m + 1) vs → tr ⟨N, vs⟩ t = some true ∧ ∃ vs', ex ⟨N, vs⟩ body = some (⟨N, vs'⟩, .next) ∧ J m vs') : ∀ (m n : Nat) (vs : Vs), m < n → J m vs → ∃ vs', whileL tr ex t body n ⟨N, vs⟩ = some (⟨N, vs'⟩, .next) ∧ J 0 vs'
  | 0, 0, vs, h, _ => absurd h (Nat.lt_irrefl _)
  | 0, n + 1, vs, _, h => ⟨vs, by simp only [whileL, hz vs h], h⟩
  | m + 1, 0, vs, h, _ => absurd h (Nat.not_lt_zero _)
  | m + 1, n + 1, vs, hl, h => by
    obtain ⟨h1, vs1, h2, h3⟩ := hs m vs h
    obtain ⟨vs2, h4, h5⟩ := loop_while J hz hs m n vs1 (Nat.lt_of_succ_lt_succ hl) h3
    exact ⟨vs2, by simp only [whileL, h1, h2, h4], h5⟩
theorem it_tup {b : List PV} (h1 : b.length ≤ lim) : items (.tup b) = some b := by unfold items; exact if_pos h1
theorem idx_list {b : List PV} {i : Nat} (h : i < b.length) : indexL b (i : Int) = some b[i] := by
  unfold indexL
  rw [if_pos (Int.natCast_nonneg _), Int.toNat_natCast, List.getElem?_eq_getElem h]
theorem bytesInts_len {b : List UInt8} : (bytesInts b).length = b.length := by simp [bytesInts]
theorem small_nat {i : Nat} (h : i ≤ 1000000) : smallI (i : Int) = true := smallOf (by omega) (by omega)
/-- a row of octets as a number, the lowest first -/
noncomputable def valB : List UInt8 → Int
  | [] => 0
  | x :: r => (x.toNat : Int) + 256 * valB r
theorem valB_app : ∀ {a : List UInt8} {x : UInt8}, valB (a ++ [x]) = valB a + (x.toNat : Int) * 256 ^ a.length
  | [], x => by simp [valB]
  | y :: a, x => by
    simp only [List.cons_append, valB, valB_app, List.length_cons, Int.pow_succ]
    rw [Int.mul_add, Int.add_assoc]
    congr 2
    rw [Int.mul_left_comm, Int.mul_comm 256 (256 ^ a.length)]
noncomputable def octs (w : Nat) (x : Int) : List UInt8 := (List.range w).map fun k => ((x.fdiv (256 ^ k)).fmod 256).toNat.toUInt8
theorem octs_len {w : Nat} {x : Int} : (octs w x).length = w := by simp [octs]
theorem byte_back {x : Int} : ((x.fmod 256).toNat.toUInt8.toNat : Int) = x.fmod 256 := by
  have h1 := Int.fmod_nonneg_of_pos x (show (0 : Int) < 256 by decide)
  have h2 := Int.fmod_lt_of_pos x (show (0 : Int) < 256 by decide)
  rw [show (x.fmod 256).toNat.toUInt8 = UInt8.ofNat (x.fmod 256).toNat from rfl, UInt8.toNat_ofNat']
  omega
theorem grp_split {α : Type} {cs : List (List α)} {i : Nat} (hi : i < cs.length) : cs.flatten = (cs.take i).flatten ++ (cs[i] ++ (cs.drop (i + 1)).flatten) := by
  have : cs = cs.take i ++ (cs[i] :: cs.drop (i + 1)) := by rw [← List.drop_eq_getElem_cons hi, List.take_append_drop]
  conv => lhs; rw [this]
  rw [List.flatten_append, List.flatten_cons]
theorem bytesInts_app {a b : List UInt8} : bytesInts (a ++ b) = bytesInts a ++ bytesInts b := by simp [bytesInts]
theorem flat_lenW {α : Type} {w : Nat} : ∀ {cs : List (List α)}, (∀ c ∈ cs, c.length = w) → cs.flatten.length = w * cs.length
  | [], _ => by simp
  | c :: cs, h => by
    rw [List.flatten_cons, List.length_append, flat_lenW fun d hd => h d (List.mem_cons_of_mem _ hd), h c List.mem_cons_self, List.length_cons, Nat.mul_add]
    omega
noncomputable def bI (b : List UInt8) : List Int := b.map fun c => (c.toNat : Int)
theorem asBytes_ints : ∀ {b : List UInt8}, mapO asByte (bytesInts b) = some b
  | [] => by simp [bytesInts, mapO]
  | x :: b => by
    have h := asBytes_ints (b := b)
    have h2 := x.toNat_lt
    unfold bytesInts at h ⊢
    simp only [List.map_cons]
    refine m_cons ?_ h
    simp only [asByte]
    rw [if_pos (by omega)]
    simp
theorem cgA {names N l : List (Str × NameKind)} {vs : List (Str × Ent)} {x : Str} {p : PV} (h1 : names.lookup x = some .free) (h : (x, NameKind.free) ∈ l) (k : lookE vs x = some (.val p)) : lookE (caught names ⟨N, vs⟩ l) x = some (.val p) := cg_get h1 k h
theorem c_bytesI {b : List UInt8} (h : b.length ≤ lim) : bcall (S "bytes") [.list (bytesInts b)] = some (.bytes b) := by
  rw [c_bytesl (by rw [bytesInts_len]; exact h), asBytes_ints]; rfl
theorem c_sumI {a : List Int} (h : a.length ≤ lim) : bcall (S "sum") [.list (intVals a)] = some (.int a.sum) := by
  rw [c_sum (by rw [ints_len]; exact h), asInts_vals]; rfl
theorem map_rev_rev {cs : List (List UInt8)} : (cs.map List.reverse).map List.reverse = cs := by
  rw [List.map_map]
  conv => rhs; rw [← List.map_id cs]
  exact List.map_congr_left fun c _ => by simp
theorem slice_to {α : Type} (xs : List α) (m : Nat) : sliceL xs none (some (m : Int)) = xs.take m := by
  unfold sliceL loN hiN clampN
  simp only
  rw [if_neg (by omega), List.drop_zero, Int.toNat_natCast, Nat.sub_zero]
  by_cases h : m ≤ xs.length
  · rw [Nat.min_eq_left h]
  · rw [Nat.min_eq_right (by omega), List.take_of_length_le (Nat.le_refl _), List.take_of_length_le (by omega)]
theorem ints_take {ns : List Int} {m : Nat} : (intVals ns).take m = intVals (ns.take m) := by simp [intVals, List.map_take]
theorem grp_get {cs : List (List UInt8)} {w i j : Nat} (hc : ∀ c ∈ cs, c.length = w) (hi : i < cs.length) (hj : j < w) : cs.flatten[w * i + j]? = some (cs[i].getD j 0) := by
  have ht : ∀ c ∈ cs.take i, c.length = w := fun c h => hc c (List.mem_of_mem_take h)
  have l1 : ((cs.take i).flatten).length = w * i := by rw [flat_lenW ht, List.length_take]; congr 1; omega
  have l2 : cs[i].length = w := hc _ (List.getElem_mem hi)
  rw [grp_split hi, List.getElem?_append_right (by omega), l1, Nat.add_sub_cancel_left, List.getElem?_append_left (by omega), List.getElem?_eq_getElem (by omega), List.getD_eq_getElem?_getD, List.getElem?_eq_getElem (by omega)]
  rfl
end Mine
end
section
open PySem PySem.W PyProof.Rows
set_option Elab.async false
set_option maxRecDepth 100000
set_option linter.unusedVariables false
namespace Mine
local macro_rules | `(tactic| walk_at "ev") => `(tactic| (repeat' (with_reducible (first
  | assumption | exact lk_hit | apply lk_miss (by decide +kernel) | exact e_int | exact e_bool
  | apply e_name (by decide +kernel) (by decide +kernel)
  | apply e_bin | exact b_add | exact b_sub
  | apply e_sub (by decide +kernel)
  | apply s_bytesT
  | apply e_callb (by decide +kernel) (by decide +kernel) (by first | exact nb_len (by assumption) | exact nb_range (by assumption) | exact nb_bytes (by assumption))
  | apply a_of (by decide +kernel) | exact m_nil | apply m_cons
  | apply c_lenb | apply c_bytesb | exact c_rng1 | apply c_rng3 ))))
noncomputable abbrev q0 := PySem.Challenge.pw_pg0336_04
noncomputable abbrev Nb := (scopeAt q0 1).names

structure BI (w : Nat) (data arr : List UInt8) (vs : Vs) : Prop where
  d : lookE vs (S "data") = some (.val (.bytes data))
  w : lookE vs (S "width") = some (.val (.int w))
  s : lookE vs (S "swapped_data") = some (.arr arr)

theorem bs_step {fns : Str → Option Def} {k : Nat} (hb : NoB fns) {w : Nat} {data arr : List UInt8} {vs : Vs} {i j : Nat} {x : UInt8} (H : BI w data arr vs) (hi : lookE vs (S "i") = some (.val (.int i)))
   (hd : data[i + j]? = some x) (hj : j < w) (hl : data.length ≤ 1000) (hl2 : arr.length ≤ 1000) (hk : i + w - 1 - j < arr.length) :
   ∃ vs', (interp fns (k + 20)).ex ⟨Nb, setE vs (S "j") (.val (.int j))⟩ (inner (nth (inner (nth (bodyAt q0 1) 1)) 0)) = some (⟨Nb, vs'⟩, .next) ∧
     BI w data (arr.set (i + w - 1 - j) x) vs' ∧ lookE vs' (S "i") = some (.val (.int i)) := by
  obtain ⟨h1, h2, h3⟩ := H
  have e1 : indexL data (i + j : Int) = some x := by
    unfold indexL
    rw [if_pos (by omega)]
    exact hd
  have e2 : smallI (i + j : Int) = true := by
    have := List.getElem?_eq_some_iff.mp hd
    obtain ⟨h, _⟩ := this
    exact smallOf (by omega) (by omega)
  have hd1 : data.length ≤ lim := Nat.le_trans hl (by decide)
  have hd2 : arr.length ≤ lim := Nat.le_trans hl2 (by decide)
  refine ⟨setE (setE vs (S "j") (.val (.int j))) (S "swapped_data") (.arr (arr.set (i + w - 1 - j) x)), ?_, ⟨?_, ?_, ?_⟩, ?_⟩
  · unfold bodyAt q0 PySem.Challenge.pw_pg0336_04
    dsimp only [inner, nth, List.getElem?_cons_succ, List.getElem?_cons_zero]
    refine x_one (x_store (b := arr) (v := x.toNat) (k := i + w - 1 - j) (m := i + w - 1 - j) (c := x) (by decide +kernel) ?_ ?_ ?_ rfl (by omega) hk hd2)
    · walk_at "ev"
    · walk_at "ev"
    · walk_at "ev"
  all_goals walk_at "ev"
theorem set_mid {P X : List UInt8} {k : Nat} {x : UInt8} : (P ++ (List.replicate (k + 1) 0 ++ X)).set (P.length + k) x = P ++ (List.replicate k 0 ++ (x :: X)) := by
  rw [List.set_append_right _ _ (by omega), Nat.add_sub_cancel_left, List.replicate_succ', List.append_assoc, List.set_append_right _ _ (by simp)]
  simp
theorem take_rev {c : List UInt8} {j : Nat} {x : UInt8} (h : c[j]? = some x) : (c.take (j + 1)).reverse = x :: (c.take j).reverse := by
  rw [List.take_add_one, h]; simp
theorem flat_len {α : Type} {w : Nat} : ∀ {cs : List (List α)}, (∀ c ∈ cs, c.length = w) → cs.flatten.length = w * cs.length
  | [], _ => by simp
  | c :: cs, h => by
    rw [List.flatten_cons, List.length_append, flat_len fun d hd => h d (List.mem_cons_of_mem _ hd), h c List.mem_cons_self, List.length_cons, Nat.mul_add]
    omega
theorem bs_inner {fns : Str → Option Def} {k : Nat} (hb : NoB fns) {w i : Nat} {data D1 D2 c P R : List UInt8} {vs : Vs} (hd : data = D1 ++ (c ++ D2)) (hD : D1.length = i) (hc : c.length = w) (hP : P.length = i) (hl : data.length ≤ 1000) (hR : (P ++ (List.replicate w 0 ++ R)).length ≤ 1000)
    (H : BI w data (P ++ (List.replicate w 0 ++ R)) vs) (hi : lookE vs (S "i") = some (.val (.int i))) :
    ∃ vs', (interp fns (k + 21)).ex ⟨Nb, vs⟩ (inner (nth (bodyAt q0 1) 1)) = some (⟨Nb, vs'⟩, .next) ∧ BI w data (P ++ (c.reverse ++ R)) vs' := by
  have hwl : w ≤ 1000 := by
    rw [List.length_append, List.length_append, List.length_replicate] at hR; omega
  obtain ⟨vs', e, h, _⟩ := loop_range (ex := (interp fns (k + 20)).ex) (x := S "j") (xp := ⟨5, 12, 5, 13⟩) (body := inner (nth (inner (nth (bodyAt q0 1) 1)) 0)) (N := Nb) (a := 0) (c := 1) (m := w)
    (fun j vs => BI w data (P ++ (List.replicate (w - j) 0 ++ ((c.take j).reverse ++ R))) vs ∧ lookE vs (S "i") = some (.val (.int i))) (by decide +kernel) vs (fun j vs hj ⟨H, hi⟩ => by
      have hcj : c[j]? = some c[j] := List.getElem?_eq_getElem (by omega)
      have hdj : data[i + j]? = some c[j] := by
        rw [hd, List.getElem?_append_right (by omega), hD, Nat.add_sub_cancel_left, List.getElem?_append_left (by omega), hcj]
      have hlen : (P ++ (List.replicate (w - j) 0 ++ ((c.take j).reverse ++ R))).length = (P ++ (List.replicate w 0 ++ R)).length := by
        simp; omega
      obtain ⟨vs', e, h⟩ := bs_step (k := k) hb H hi hdj hj hl (by rw [hlen]; exact hR) (by simp; omega)
      refine ⟨vs', ?_, ?_⟩
      · rw [Int.zero_add, Int.mul_one]; exact e
      · have e1 : w - j = (w - (j + 1)) + 1 := by omega
        have e2 : i + w - 1 - j = P.length + (w - (j + 1)) := by omega
        rw [e1, e2, set_mid, ← List.cons_append, ← take_rev hcj] at h
        exact h) ⟨by simpa using H, hi⟩
  refine ⟨vs', ?_, ?_⟩
  · refine x_one (s_for ?_ e)
    obtain ⟨h1, h2, h3⟩ := H
    refine p_gen (v := .rng 0 w 1) (by decide +kernel) ?_ (it_one hwl) rfl
    walk_at "ev"
  · rw [Nat.sub_self, List.take_of_length_le (by omega)] at h
    simpa using h
theorem map_rev_flat {w : Nat} {cs : List (List UInt8)} (h : ∀ c ∈ cs, c.length = w) : ((cs.map List.reverse).flatten).length = w * cs.length := by
  rw [flat_len (w := w) fun d hd => ?_, List.length_map]
  obtain ⟨c, hc, rfl⟩ := List.mem_map.mp hd
  rw [List.length_reverse]; exact h c hc
noncomputable abbrev V0 (cs : List (List UInt8)) (w : Nat) : Vs := setE [(S "data", .val (.bytes cs.flatten)), (S "width", .val (.int w))] (S "swapped_data") (.arr (List.replicate (w * cs.length) 0))
theorem V0_d {cs : List (List UInt8)} {w : Nat} : lookE (V0 cs w) (S "data") = some (.val (.bytes cs.flatten)) := lk_miss (by decide +kernel) lk_cons
theorem V0_w {cs : List (List UInt8)} {w : Nat} : lookE (V0 cs w) (S "width") = some (.val (.int w)) := lk_miss (by decide +kernel) (lk_skip (by decide +kernel) lk_cons)
theorem V0_s {cs : List (List UInt8)} {w : Nat} : lookE (V0 cs w) (S "swapped_data") = some (.arr (List.replicate (w * cs.length) 0)) := lk_hit
theorem bs_outer {fns : Str → Option Def} {k w : Nat} (hb : NoB fns) (hw : 0 < w) (hw2 : w ≤ 1000) {cs : List (List UInt8)} (hc : ∀ c ∈ cs, c.length = w) (hl : w * cs.length ≤ 1000) :
    ∃ vs', forL (interp fns (k + 21)).ex (.Name (S "i") ⟨4, 8, 4, 9⟩) (inner (nth (bodyAt q0 1) 1)) (rangeItems 0 (w : Int) cs.length) ⟨Nb, V0 cs w⟩ = some (⟨Nb, vs'⟩, .next) ∧ BI w cs.flatten ((cs.map List.reverse).flatten) vs' := by
  have hlen : cs.flatten.length = w * cs.length := flat_len hc
  obtain ⟨vs', e, h⟩ := loop_range (ex := (interp fns (k + 21)).ex) (x := S "i") (xp := ⟨4, 8, 4, 9⟩) (body := inner (nth (bodyAt q0 1) 1)) (N := Nb) (a := 0) (c := (w : Int)) (m := cs.length)
    (fun i vs => BI w cs.flatten (((cs.take i).map List.reverse).flatten ++ List.replicate (w * (cs.length - i)) 0) vs) (by decide +kernel) (V0 cs w) (fun i vs hi H => by
      have hci : cs[i]? = some cs[i] := List.getElem?_eq_getElem hi
      have hcl : (cs[i]).length = w := hc _ (List.getElem_mem hi)
      have ht : ∀ c ∈ cs.take i, c.length = w := fun c h => hc c (List.mem_of_mem_take h)
      have hti : (cs.take i).length = i := by rw [List.length_take]; omega
      have l1 : ((cs.take i).flatten).length = w * i := by rw [flat_len ht, hti]
      have l2 : (((cs.take i).map List.reverse).flatten).length = w * i := by rw [map_rev_flat ht, hti]
      have e1 : w * (cs.length - i) = w + w * (cs.length - (i + 1)) := by
        rw [show cs.length - i = (cs.length - (i + 1)) + 1 from by omega, Nat.mul_add]; omega
      have e2 : w * i + (w + w * (cs.length - (i + 1))) = w * cs.length := by
        rw [← e1, ← Nat.mul_add]; congr 1; omega
      have hd : cs.flatten = (cs.take i).flatten ++ (cs[i] ++ (cs.drop (i + 1)).flatten) := by
        have : cs = cs.take i ++ (cs[i] :: cs.drop (i + 1)) := by rw [← List.drop_eq_getElem_cons hi, List.take_append_drop]
        conv => lhs; rw [this]
        rw [List.flatten_append, List.flatten_cons]
      obtain ⟨h1, h2, h3⟩ := H
      obtain ⟨vs', e, h⟩ := bs_inner (k := k) (fns := fns) hb (i := w * i) (P := ((cs.take i).map List.reverse).flatten) (R := List.replicate (w * (cs.length - (i + 1))) 0) (vs := setE vs (S "i") (.val (.int (0 + (i : Int) * (w : Int))))) hd l1 hcl l2 (by rw [hlen]; exact hl)
        (by rw [List.length_append, List.length_append, List.length_replicate, List.length_replicate, l2, e2]; exact hl)
        ⟨lk_miss (by decide +kernel) h1, lk_miss (by decide +kernel) h2, lk_miss (by decide +kernel) (by rw [h3, e1, List.replicate_append_replicate])⟩ (by rw [Int.zero_add, Int.mul_comm, ← Int.natCast_mul]; exact lk_hit)
      refine ⟨vs', e, ?_⟩
      rw [List.take_add_one, hci]
      simp only [Option.toList_some, List.map_append, List.flatten_append, List.map_cons, List.map_nil, List.flatten_cons, List.flatten_nil, List.append_nil, List.append_assoc]
      exact h) ⟨V0_d, V0_w, by rw [V0_s]; simp⟩
  refine ⟨vs', e, ?_⟩
  rw [List.take_length, Nat.sub_self, Nat.mul_zero, List.replicate_zero, List.append_nil] at h
  exact h
noncomputable def DefBs : Def := ⟨[S "data", S "width"], bodyAt q0 1, scopeAt q0 1⟩
/-- what _byteswap gives: every group turned -/
theorem bs_ok {fns : Str → Option Def} {k w : Nat} (hb : NoB fns) (hf : fns (S "_byteswap") = some DefBs) (hw : 0 < w) (hw2 : w ≤ 1000) {cs : List (List UInt8)} (hc : ∀ c ∈ cs, c.length = w) (hl : w * cs.length ≤ 1000) :
    (interp fns (k + 23)).cl (S "_byteswap") [.bytes cs.flatten, .int w] = some (.bytes (cs.map List.reverse).flatten) := by
  have hlen : cs.flatten.length = w * cs.length := flat_len hc
  have hlen2 : cs.flatten.length ≤ lim := by rw [hlen]; exact Nat.le_trans hl (by decide)
  have hlen3 : (cs.map List.reverse).flatten.length ≤ lim := by rw [map_rev_flat hc]; exact Nat.le_trans hl (by decide)
  have hz : smallI (w : Int) = true := smallOf (by omega) (by omega)
  have hw0 : (w : Int) ≠ 0 := by omega
  obtain ⟨vs', e, h1, h2, h3⟩ := bs_outer (k := k) (fns := fns) hb hw hw2 hc hl
  refine f_call (n := k + 22) (fm := ⟨Nb, frzAll vs'⟩) hf rfl ?_
  show (interp fns (k + 22)).ex ⟨Nb, [(S "data", .val (.bytes cs.flatten)), (S "width", .val (.int w))]⟩ (bodyAt q0 1) = _
  have g1 : lookE [(S "data", Ent.val (.bytes cs.flatten)), (S "width", Ent.val (.int w))] (S "data") = some (.val (.bytes cs.flatten)) := lk_cons
  have g2 := V0_d (cs := cs) (w := w)
  have g3 := V0_w (cs := cs) (w := w)
  have g4 := lk_frza h3
  have e1 : SS fns (k + 21) ⟨Nb, V0 cs w⟩ (nth (bodyAt q0 1) 1) = some (⟨Nb, vs'⟩, .next) := by
    refine s_for (p_gen (v := .rng 0 ((w * cs.length : Nat) : Int) w) (by decide +kernel) ?_ (it_mul hw hl hw2) rfl) e
    rw [← hlen]; walk_at "ev"
  have e0 : SS fns (k + 21) ⟨Nb, [(S "data", .val (.bytes cs.flatten)), (S "width", .val (.int w))]⟩ (nth (bodyAt q0 1) 0) = some (⟨Nb, V0 cs w⟩, .next) := by
    refine s_barr (m := w * cs.length) (by decide +kernel) (by decide +kernel) ?_ hl
    rw [← hlen]; walk_at "ev"
  have e2 : SS fns (k + 21) ⟨Nb, vs'⟩ (nth (bodyAt q0 1) 2) = some (⟨Nb, frzAll vs'⟩, .ret (.bytes (cs.map List.reverse).flatten)) := by
    refine s_retz (e_call_none (by decide +kernel) (m_none (e_name_arr h3))) ?_
    walk_at "ev"
  exact x_seq e0 (x_seq e1 (x_ret e2))
end Mine
end
section
open PySem PySem.W PyProof.Rows
set_option Elab.async false
set_option maxRecDepth 100000
set_option linter.unusedVariables false
namespace Mine
local macro_rules | `(tactic| walk_at "ev") => `(tactic| (repeat' (with_reducible (first
  | assumption | exact lk_hit | apply lk_miss (by decide +kernel) | exact e_int | exact e_bool
  | apply e_name (by decide +kernel) (by decide +kernel)
  | apply e_bin | exact b_add | exact b_sub | exact b_mulL (by assumption) | exact b_mulR (by assumption) | apply b_fdiv | apply b_mod | apply b_powN
  | apply e_sub (by decide +kernel) | apply s_bytesT | apply s_listT
  | apply e_slice | exact o_none | apply o_some | apply sl_list | apply sl_bytes
  | apply e_callb (by decide +kernel) (by decide +kernel) (by first | exact nb_len (by assumption) | exact nb_range (by assumption) | exact nb_bytes (by assumption) | exact nb_list (by assumption) | exact nb_sum (by assumption) | exact nb_abs (by assumption) | exact nb_max (by assumption) | exact nb_int (by assumption))
  | apply a_of (by decide +kernel) | exact m_nil | apply m_cons
  | apply c_lenb | apply c_len | apply c_bytesb | exact c_rng1 | exact c_rng2 | apply c_rng3 | exact c_abs | exact c_int | exact c_max2 | apply c_list
  | apply e_cmp | exact q_eq | exact q_ne | exact q_lt | exact q_gt | exact q_le | exact q_ge | exact q_eqb | exact q_neb
  | apply t_cmp | apply t_call | apply t_not | apply t_or | exact or_nil | apply or_cons | apply e_neg
  | apply lk_del (by decide +kernel) | apply c_bytesI | apply c_sumI | exact q_neli
  | apply cgA (by decide +kernel) (by decide +kernel)
  | apply e_list | apply e_tup ))))
theorem smallPow {w : Nat} (h : w ≤ 6) : smallI ((256 : Int) ^ w) = true := by
  have : w = 0 ∨ w = 1 ∨ w = 2 ∨ w = 3 ∨ w = 4 ∨ w = 5 ∨ w = 6 := by omega
  rcases this with e | e | e | e | e | e | e <;> subst e <;> decide +kernel
theorem powNe {w : Nat} (h : w ≤ 6) : (256 : Int) ^ w ≠ 0 := by
  have : w = 0 ∨ w = 1 ∨ w = 2 ∨ w = 3 ∨ w = 4 ∨ w = 5 ∨ w = 6 := by omega
  rcases this with e | e | e | e | e | e | e <;> subst e <;> decide +kernel
theorem fdiv_step {x : Int} (h : 0 ≤ x) (i : Nat) : (x.fdiv (256 ^ i)).fdiv 256 = x.fdiv (256 ^ (i + 1)) := by
  have h1 : (0 : Int) ≤ 256 ^ i := Int.pow_nonneg (by decide)
  have h2 : (0 : Int) ≤ 256 ^ (i + 1) := Int.pow_nonneg (by decide)
  rw [Int.fdiv_eq_ediv_of_nonneg _ h1, Int.fdiv_eq_ediv_of_nonneg _ (by decide), Int.fdiv_eq_ediv_of_nonneg _ h2, Int.ediv_ediv_of_nonneg h1, Int.pow_succ]
/-! _law_octets -/
noncomputable abbrev N3 := (scopeAt q0 3).names
noncomputable def DefOct : Def := ⟨[S "samples", S "width"], bodyAt q0 3, scopeAt q0 3⟩
noncomputable def smp (w : Nat) (s : Int) : List UInt8 := octs w (s.fmod (256 ^ w))
theorem smp_len {w : Nat} {s : Int} : (smp w s).length = w := octs_len
structure O4 (w : Nat) (o : List UInt8) (vs : Vs) : Prop where
  w : lookE vs (S "width") = some (.val (.int w))
  o : lookE vs (S "octets") = some (.lst (bytesInts o))
theorem octs_take {w k : Nat} {x : Int} (h : k < w) : bytesInts ((octs w x).take (k + 1)) = bytesInts ((octs w x).take k) ++ [.int ((x.fdiv (256 ^ k)).fmod 256)] := by
  have e : (octs w x)[k]? = some ((x.fdiv (256 ^ k)).fmod 256).toNat.toUInt8 := by
    unfold octs
    rw [List.getElem?_map, List.getElem?_range h]; rfl
  rw [List.take_add_one, e, bytesInts_app]
  congr 1
  simp only [bytesInts, Option.toList_some, List.map_cons, List.map_nil, byte_back]
theorem oct_turn {fns : Str → Option Def} {k w : Nat} (hb : NoB fns) (hw : w ≤ 6) {o : List UInt8} (ho : o.length ≤ 900) {s : Int} {vs : Vs} (H : O4 w o vs) :
    ∃ vs', (interp fns (k + 20)).ex ⟨N3, setE vs (S "sample") (.val (.int s))⟩ (inner (nth (bodyAt q0 3) 1)) = some (⟨N3, vs'⟩, .next) ∧ O4 w (o ++ smp w s) vs' := by
  obtain ⟨h1, h2⟩ := H
  have h256 : smallI 256 = true := by decide +kernel
  have h256' : (256 : Int) ≠ 0 := by decide
  have hp := powNe hw
  have hw1 : w ≤ 1000 := by omega
  obtain ⟨R, hR⟩ : ∃ R, R = s.fmod (256 ^ w) := ⟨_, rfl⟩
  have hR0 : 0 ≤ R := by
    rw [hR, Int.fmod_eq_emod_of_nonneg _ (Int.pow_nonneg (by decide))]
    exact Int.emod_nonneg _ hp
  have e0 : SS fns (k + 19) ⟨N3, setE vs (S "sample") (.val (.int s))⟩ (nth (inner (nth (bodyAt q0 3) 1)) 0) = some (⟨N3, setE (setE vs (S "sample") (.val (.int s))) (S "rest") (.val (.int R))⟩, .next) := by
    rw [hR]
    refine s_asg (by decide +kernel) (by decide +kernel) (e_bin (a := .int s) (b := .int (256 ^ w)) ?_ (e_bin (a := .int 256) (b := .int w) e_int ?_ (b_powN hw1 h256)) (b_mod hp))
    all_goals walk_at "ev"
  generalize hv1 : setE (setE vs (S "sample") (.val (.int s))) (S "rest") (.val (.int R)) = vs1 at e0
  have a1 : lookE vs1 (S "width") = some (.val (.int w)) := by subst hv1; walk_at "ev"
  have a2 : lookE vs1 (S "octets") = some (.lst (bytesInts o)) := by subst hv1; walk_at "ev"
  have a3 : lookE vs1 (S "rest") = some (.val (.int R)) := by subst hv1; walk_at "ev"
  clear hv1 h1 h2
  obtain ⟨vs', e1, h⟩ := loop_nat (ex := (interp fns (k + 19)).ex) (x := S "k") (xp := nmPos (forTgt (nth (inner (nth (bodyAt q0 3) 1)) 1))) (body := inner (nth (inner (nth (bodyAt q0 3) 1)) 1)) (N := N3) (m := w)
    (fun i vs => O4 w (o ++ (octs w R).take i) vs ∧ lookE vs (S "rest") = some (.val (.int (R.fdiv (256 ^ i))))) (by decide +kernel) vs1
    (fun i vs hi ⟨⟨h1, h2⟩, h3⟩ => by
      have f0 : SS fns (k + 18) ⟨N3, setE vs (S "k") (.val (.int (i : Int)))⟩ (nth (inner (nth (inner (nth (bodyAt q0 3) 1)) 1)) 0) = some (⟨N3, setE (setE vs (S "k") (.val (.int (i : Int)))) (S "octets") (.lst (bytesInts (o ++ (octs w R).take (i + 1))))⟩, .next) := by
        rw [bytesInts_app, octs_take hi, ← List.append_assoc, ← bytesInts_app]
        refine s_app (by decide +kernel) ?_ (e_bin (a := .int (R.fdiv (256 ^ i))) (b := .int 256) ?_ e_int (b_mod h256')) ?_
        · walk_at "ev"
        · walk_at "ev"
        · rw [bytesInts_len, List.length_append]
          refine Nat.le_trans (Nat.add_le_add ho (List.length_take_le _ _)) ?_
          exact Nat.le_trans (Nat.add_le_add_left (show i ≤ 6 by omega) _) (by decide)
      have f1 : SS fns (k + 18) ⟨N3, setE (setE vs (S "k") (.val (.int (i : Int)))) (S "octets") (.lst (bytesInts (o ++ (octs w R).take (i + 1))))⟩ (nth (inner (nth (inner (nth (bodyAt q0 3) 1)) 1)) 1) = some (⟨N3, setE (setE (setE vs (S "k") (.val (.int (i : Int)))) (S "octets") (.lst (bytesInts (o ++ (octs w R).take (i + 1))))) (S "rest") (.val (.int ((R.fdiv (256 ^ i)).fdiv 256)))⟩, .next) := by
        refine s_aug (a := R.fdiv (256 ^ i)) (b := 256) rfl (by decide +kernel) ?_ e_int (b_fdiv h256' h256)
        walk_at "ev"
      refine ⟨_, x_seq f0 (x_one f1), ⟨?_, ?_⟩, ?_⟩
      · walk_at "ev"
      · walk_at "ev"
      · rw [fdiv_step hR0]; exact lk_hit) ⟨⟨a1, by rw [List.take_zero, List.append_nil]; exact a2⟩, by rw [Int.pow_zero, Int.fdiv_one]; exact a3⟩
  refine ⟨vs', x_seq e0 (x_one (s_for (p_gen (v := .rng 0 (w : Int) 1) (by decide +kernel) ?_ (it_nat hw1) rfl) e1)), ?_⟩
  · walk_at "ev"
  · have := h.1
    rw [List.take_of_length_le (by rw [octs_len]; exact Nat.le_refl _), hR] at this
    exact this
theorem oct_ok {fns : Str → Option Def} {k w : Nat} (hb : NoB fns) (hf : fns (S "_law_octets") = some DefOct) (hw : w ≤ 6) {ss : List Int} (hl : ss.length ≤ 100) :
    (interp fns (k + 22)).cl (S "_law_octets") [.list (intVals ss), .int w] = some (.bytes (ss.map (smp w)).flatten) := by
  have hs : (intVals ss).length ≤ lim := by rw [ints_len]; exact Nat.le_trans hl (by decide)
  have hfl : ∀ l : List Int, ((l.map (smp w)).flatten).length = w * l.length := fun l => by
    rw [flat_len (w := w) fun d hd => ?_, List.length_map]
    obtain ⟨x, _, rfl⟩ := List.mem_map.mp hd
    exact smp_len
  have g1 : lookE [(S "samples", Ent.val (.list (intVals ss))), (S "width", Ent.val (.int w))] (S "samples") = some (.val (.list (intVals ss))) := lk_cons
  have g2 : lookE [(S "samples", Ent.val (.list (intVals ss))), (S "width", Ent.val (.int w))] (S "width") = some (.val (.int w)) := lk_skip (by decide +kernel) lk_cons
  suffices ∃ fm, (interp fns (k + 21)).ex ⟨N3, [(S "samples", Ent.val (.list (intVals ss))), (S "width", Ent.val (.int w))]⟩ (bodyAt q0 3) = some (fm, .ret (.bytes (ss.map (smp w)).flatten)) by
    obtain ⟨fm, h⟩ := this
    exact f_call (n := k + 21) hf rfl h
  generalize hvs : [(S "samples", Ent.val (.list (intVals ss))), (S "width", Ent.val (.int w))] = vs at *
  have e0 : SS fns (k + 20) ⟨N3, vs⟩ (nth (bodyAt q0 3) 0) = some (⟨N3, setE vs (S "octets") (.lst [])⟩, .next) := s_nil (by decide +kernel)
  obtain ⟨vs', e1, h1, h2⟩ := loop_inv (ex := (interp fns (k + 20)).ex) (x := S "sample") (xp := nmPos (forTgt (nth (bodyAt q0 3) 1))) (body := inner (nth (bodyAt q0 3) 1)) (N := N3) PV.int
    (fun pre vs => O4 w (pre.map (smp w)).flatten vs) (by decide +kernel) ss [] (setE vs (S "octets") (.lst []))
    (fun pre a post vs e H => by
      have hpl : pre.length ≤ 100 := by rw [← e] at hl; simp only [List.length_append, List.length_cons] at hl; omega
      obtain ⟨vs', e, h⟩ := oct_turn (k := k) (s := a) hb hw (by rw [hfl]; exact Nat.le_trans (Nat.mul_le_mul hw hpl) (by decide)) H
      refine ⟨vs', e, ?_⟩
      rw [List.map_append, List.flatten_append]
      simpa using h) ⟨lk_miss (by decide +kernel) g2, lk_hit⟩
  have e1' : SS fns (k + 20) ⟨N3, setE vs (S "octets") (.lst [])⟩ (nth (bodyAt q0 3) 1) = some (⟨N3, vs'⟩, .next) := by
    refine s_for (p_gen (v := .list (intVals ss)) (by decide +kernel) ?_ (it_list hs) rfl) e1
    walk_at "ev"
  have h3 := lk_frzl h2
  have hl2 : (bytesInts (ss.map (smp w)).flatten).length ≤ lim := by
    rw [bytesInts_len, hfl]; exact Nat.le_trans (Nat.mul_le_mul hw hl) (by decide)
  have e2 : SS fns (k + 20) ⟨N3, vs'⟩ (nth (bodyAt q0 3) 2) = some (⟨N3, frzAll vs'⟩, .ret (.bytes (ss.map (smp w)).flatten)) := by
    refine s_retz (e_call_none (by decide +kernel) (m_none (e_name_lst h2))) ?_
    refine e_callb (as := [.list (bytesInts (ss.map (smp w)).flatten)]) (by decide +kernel) (by decide +kernel) (nb_bytes hb) (a_of (by decide +kernel) (m_cons ?_ m_nil)) (c_bytesI (by rw [← bytesInts_len]; exact hl2))
    walk_at "ev"
  exact ⟨_, x_seq e0 (x_seq e1' (x_ret e2))⟩
end Mine
end
section
open PySem PySem.W PyProof.Rows
set_option Elab.async false
set_option maxRecDepth 100000
set_option linter.unusedVariables false
namespace Mine
local macro_rules | `(tactic| walk_at "ev") => `(tactic| (repeat' (with_reducible (first
  | assumption | exact lk_hit | apply lk_miss (by decide +kernel) | exact e_int | exact e_bool
  | apply e_name (by decide +kernel) (by decide +kernel)
  | apply e_bin | exact b_add | exact b_sub | exact b_mulL (by assumption) | exact b_mulR (by assumption) | apply b_fdiv | apply b_mod | apply b_powN
  | apply e_sub (by decide +kernel) | apply s_bytesT | apply s_listT
  | apply e_slice | exact o_none | apply o_some | apply sl_list | apply sl_bytes
  | apply e_callb (by decide +kernel) (by decide +kernel) (by first | exact nb_len (by assumption) | exact nb_range (by assumption) | exact nb_bytes (by assumption) | exact nb_list (by assumption) | exact nb_sum (by assumption) | exact nb_abs (by assumption) | exact nb_max (by assumption) | exact nb_int (by assumption))
  | apply a_of (by decide +kernel) | exact m_nil | apply m_cons
  | apply c_lenb | apply c_len | apply c_bytesb | exact c_rng1 | exact c_rng2 | apply c_rng3 | exact c_abs | exact c_int | exact c_max2 | apply c_list
  | apply e_cmp | exact q_eq | exact q_ne | exact q_lt | exact q_gt | exact q_le | exact q_ge | exact q_eqb | exact q_neb
  | apply t_cmp | apply t_call | apply t_not | apply t_or | exact or_nil | apply or_cons | apply e_neg
  | apply lk_del (by decide +kernel) | apply c_bytesI | apply c_sumI | exact q_neli
  | apply cgA (by decide +kernel) (by decide +kernel)
  | apply e_list | apply e_tup ))))
/-! _law_samples -/
noncomputable abbrev N4 := (scopeAt q0 4).names
noncomputable def DefSam : Def := ⟨[S "octets", S "width"], bodyAt q0 4, scopeAt q0 4⟩
noncomputable def signed (w : Nat) (c : List UInt8) : Int := if valB c ≥ ((256 : Int) ^ w).fdiv 2 then valB c - 256 ^ w else valB c
structure S4 (w : Nat) (d : List UInt8) (ss : List Int) (vs : Vs) : Prop where
  w : lookE vs (S "width") = some (.val (.int w))
  o : lookE vs (S "octets") = some (.val (.bytes d))
  s : lookE vs (S "samples") = some (.lst (intVals ss))
theorem sam_turn {fns : Str → Option Def} {k w i : Nat} (hb : NoB fns) (hw : w ≤ 6) {cs : List (List UInt8)} (hc : ∀ c ∈ cs, c.length = w) (hl : w * cs.length ≤ 1000) (hi : i < cs.length) {ss : List Int} (hsl : ss.length ≤ 900) {vs : Vs} (H : S4 w cs.flatten ss vs) :
    ∃ vs', (interp fns (k + 20)).ex ⟨N4, setE vs (S "start") (.val (.int ((w * i : Nat) : Int)))⟩ (inner (nth (bodyAt q0 4) 1)) = some (⟨N4, vs'⟩, .next) ∧ S4 w cs.flatten (ss ++ [signed w cs[i]]) vs' := by
  obtain ⟨h1, h2, h3⟩ := H
  have h256 : smallI 256 = true := by decide +kernel
  have h2' : smallI 2 = true := by decide +kernel
  have h2'' : (2 : Int) ≠ 0 := by decide
  have hw1 : w ≤ 1000 := by omega
  have hfl : cs.flatten.length = w * cs.length := flat_len hc
  have hfl2 : cs.flatten.length ≤ lim := by rw [hfl]; exact Nat.le_trans hl (by decide)
  have hcl : (cs[i]).length = w := hc _ (List.getElem_mem hi)
  have e0 : SS fns (k + 19) ⟨N4, setE vs (S "start") (.val (.int ((w * i : Nat) : Int)))⟩ (nth (inner (nth (bodyAt q0 4) 1)) 0) = some (⟨N4, setE (setE vs (S "start") (.val (.int ((w * i : Nat) : Int)))) (S "sample") (.val (.int 0))⟩, .next) :=
    s_asg (by decide +kernel) (by decide +kernel) e_int
  generalize hv1 : setE (setE vs (S "start") (.val (.int ((w * i : Nat) : Int)))) (S "sample") (.val (.int 0)) = vs1 at e0
  have a1 : lookE vs1 (S "width") = some (.val (.int w)) := by subst hv1; walk_at "ev"
  have a2 : lookE vs1 (S "octets") = some (.val (.bytes cs.flatten)) := by subst hv1; walk_at "ev"
  have a3 : lookE vs1 (S "samples") = some (.lst (intVals ss)) := by subst hv1; walk_at "ev"
  have a4 : lookE vs1 (S "start") = some (.val (.int ((w * i : Nat) : Int))) := by subst hv1; walk_at "ev"
  have a5 : lookE vs1 (S "sample") = some (.val (.int 0)) := by subst hv1; walk_at "ev"
  clear hv1 h1 h2 h3
  obtain ⟨vs2, e1, ⟨b1, b2, b3⟩, b4⟩ := loop_nat (ex := (interp fns (k + 19)).ex) (x := S "k") (xp := nmPos (forTgt (nth (inner (nth (bodyAt q0 4) 1)) 1))) (body := inner (nth (inner (nth (bodyAt q0 4) 1)) 1)) (N := N4) (m := w)
    (fun j vs => S4 w cs.flatten ss vs ∧ lookE vs (S "sample") = some (.val (.int (valB ((cs[i]).take j)))) ∧ lookE vs (S "start") = some (.val (.int ((w * i : Nat) : Int)))) (by decide +kernel) vs1
    (fun j vs hj ⟨⟨h1, h2, h3⟩, h4, h5⟩ => by
      have hx : (cs[i])[j]? = some (cs[i].getD j 0) := by
        rw [List.getD_eq_getElem?_getD, List.getElem?_eq_getElem (by omega)]; rfl
      have hg := grp_get hc hi hj
      have hj2 : indexL cs.flatten (((w * i : Nat) : Int) + (j : Int)) = some (cs[i].getD j 0) := by
        unfold indexL
        rw [if_pos (by omega), show (((w * i : Nat) : Int) + (j : Int)).toNat = w * i + j from by omega]
        exact hg
      have hlt := (List.getElem?_eq_some_iff.mp hg).1
      have hs1 : smallI (((w * i : Nat) : Int) + (j : Int)) = true := smallOf (by omega) (by omega)
      have hj3 : j ≤ 1000 := by omega
      have hp : smallI ((256 : Int) ^ j) = true := smallPow (by omega)
      have f0 : SS fns (k + 18) ⟨N4, setE vs (S "k") (.val (.int (j : Int)))⟩ (nth (inner (nth (inner (nth (bodyAt q0 4) 1)) 1)) 0) = some (⟨N4, setE (setE vs (S "k") (.val (.int (j : Int)))) (S "sample") (.val (.int (valB ((cs[i]).take j) + ((cs[i].getD j 0).toNat : Int) * 256 ^ j)))⟩, .next) := by
        refine s_aug (a := valB ((cs[i]).take j)) (b := ((cs[i].getD j 0).toNat : Int) * 256 ^ j) rfl (by decide +kernel) ?_ ?_ b_add
        · walk_at "ev"
        · walk_at "ev"
      refine ⟨_, x_one f0, ⟨?_, ?_, ?_⟩, ?_, ?_⟩
      · walk_at "ev"
      · walk_at "ev"
      · walk_at "ev"
      · rw [List.take_add_one, hx, Option.toList_some, valB_app, List.length_take, Nat.min_eq_left (by omega)]
        exact lk_hit
      · walk_at "ev") ⟨⟨a1, a2, a3⟩, a5, a4⟩
  rw [List.take_of_length_le (by omega)] at b4
  have e1' : SS fns (k + 19) ⟨N4, vs1⟩ (nth (inner (nth (bodyAt q0 4) 1)) 1) = some (⟨N4, vs2⟩, .next) := by
    refine s_for (p_gen (v := .rng 0 (w : Int) 1) (by decide +kernel) ?_ (it_nat hw1) rfl) e1
    walk_at "ev"
  have cmp : (interp fns (k + 19)).tr ⟨N4, vs2⟩ (ifTest (nth (inner (nth (bodyAt q0 4) 1)) 2)) = some (decide (valB cs[i] ≥ ((256 : Int) ^ w).fdiv 2)) := by
    obtain ⟨b4, _⟩ := b4
    refine t_cmp (e_cmp (a := .int (valB cs[i])) (b := .int (((256 : Int) ^ w).fdiv 2)) ?_ (e_bin (a := .int (256 ^ w)) (b := .int 2) (e_bin (a := .int 256) (b := .int w) e_int ?_ (b_powN hw1 h256)) e_int (b_fdiv h2'' h2')) q_ge)
    all_goals walk_at "ev"
  obtain ⟨b4, _⟩ := b4
  have e2 : ∃ vs3, SS fns (k + 19) ⟨N4, vs2⟩ (nth (inner (nth (bodyAt q0 4) 1)) 2) = some (⟨N4, vs3⟩, .next) ∧ S4 w cs.flatten ss vs3 ∧ lookE vs3 (S "sample") = some (.val (.int (signed w cs[i]))) := by
    unfold signed
    by_cases hcnd : valB cs[i] ≥ ((256 : Int) ^ w).fdiv 2
    · rw [if_pos hcnd]
      rw [decide_eq_true hcnd] at cmp
      refine ⟨setE vs2 (S "sample") (.val (.int (valB cs[i] - 256 ^ w))), s_ifT cmp (x_one (s_aug (a := valB cs[i]) (b := 256 ^ w) rfl (by decide +kernel) b4 (e_bin (a := .int 256) (b := .int w) e_int ?_ (b_powN hw1 h256)) b_sub)), ⟨?_, ?_, ?_⟩, lk_hit⟩
      all_goals walk_at "ev"
    · rw [if_neg hcnd]
      rw [decide_eq_false hcnd] at cmp
      exact ⟨vs2, s_ifF cmp x_nil, ⟨b1, b2, b3⟩, b4⟩
  obtain ⟨vs3, e2, ⟨c1, c2, c3⟩, c4⟩ := e2
  have e3 : SS fns (k + 19) ⟨N4, vs3⟩ (nth (inner (nth (bodyAt q0 4) 1)) 3) = some (⟨N4, setE vs3 (S "samples") (.lst (intVals ss ++ [.int (signed w cs[i])]))⟩, .next) := by
    refine s_app (by decide +kernel) c3 ?_ (by rw [ints_len]; exact Nat.le_trans hsl (by decide))
    walk_at "ev"
  refine ⟨_, x_seq e0 (x_seq e1' (x_seq e2 (x_one e3))), ⟨?_, ?_, ?_⟩⟩
  · walk_at "ev"
  · walk_at "ev"
  · have : intVals (ss ++ [signed w cs[i]]) = intVals ss ++ [.int (signed w cs[i])] := by simp [intVals]
    rw [this]; exact lk_hit
theorem sam_ok {fns : Str → Option Def} {k w : Nat} (hb : NoB fns) (hf : fns (S "_law_samples") = some DefSam) (hw0 : 0 < w) (hw : w ≤ 6) {cs : List (List UInt8)} (hc : ∀ c ∈ cs, c.length = w) (hl : w * cs.length ≤ 900) :
    (interp fns (k + 22)).cl (S "_law_samples") [.bytes cs.flatten, .int w] = some (.list (intVals (cs.map (signed w)))) := by
  have hl' : w * cs.length ≤ 1000 := by omega
  have hcl : cs.length ≤ 900 := Nat.le_trans (Nat.le_mul_of_pos_left cs.length hw0) hl
  have hfl : cs.flatten.length = w * cs.length := flat_len hc
  have hfl2 : cs.flatten.length ≤ lim := by rw [hfl]; exact Nat.le_trans hl (by decide)
  have hz : smallI (w : Int) = true := small_nat (by omega)
  have hw0' : (w : Int) ≠ 0 := by omega
  have g1 : lookE [(S "octets", Ent.val (.bytes cs.flatten)), (S "width", Ent.val (.int w))] (S "octets") = some (.val (.bytes cs.flatten)) := lk_cons
  have g2 : lookE [(S "octets", Ent.val (.bytes cs.flatten)), (S "width", Ent.val (.int w))] (S "width") = some (.val (.int w)) := lk_skip (by decide +kernel) lk_cons
  suffices ∃ fm, (interp fns (k + 21)).ex ⟨N4, [(S "octets", Ent.val (.bytes cs.flatten)), (S "width", Ent.val (.int w))]⟩ (bodyAt q0 4) = some (fm, .ret (.list (intVals (cs.map (signed w))))) by
    obtain ⟨fm, h⟩ := this
    exact f_call (n := k + 21) hf rfl h
  generalize hvs : [(S "octets", Ent.val (.bytes cs.flatten)), (S "width", Ent.val (.int w))] = vs at *
  have e0 : SS fns (k + 20) ⟨N4, vs⟩ (nth (bodyAt q0 4) 0) = some (⟨N4, setE vs (S "samples") (.lst [])⟩, .next) := s_nil (by decide +kernel)
  obtain ⟨vs', e1, h1, h2, h3⟩ := loop_idx (ex := (interp fns (k + 20)).ex) (x := S "start") (xp := nmPos (forTgt (nth (bodyAt q0 4) 1))) (body := inner (nth (bodyAt q0 4) 1)) (N := N4) (m := cs.length) (fun i => .int ((w * i : Nat) : Int))
    (fun i vs => S4 w cs.flatten ((cs.take i).map (signed w)) vs) (by decide +kernel) (setE vs (S "samples") (.lst []))
    (fun i vs hi H => by
      obtain ⟨vs', e, h⟩ := sam_turn (k := k) hb hw hc hl' hi (by rw [List.length_map, List.length_take]; omega) H
      refine ⟨vs', e, ?_⟩
      rw [List.take_add_one, List.getElem?_eq_getElem hi, List.map_append]
      exact h) ⟨lk_miss (by decide +kernel) g2, lk_miss (by decide +kernel) g1, lk_hit⟩
  rw [List.take_length] at h3
  have e1' : SS fns (k + 20) ⟨N4, setE vs (S "samples") (.lst [])⟩ (nth (bodyAt q0 4) 1) = some (⟨N4, vs'⟩, .next) := by
    refine s_for (p_gen (v := .rng 0 ((w * cs.length : Nat) : Int) (w : Int)) (by decide +kernel) ?_ (it_grp hw0 hl' (by omega)) rfl) e1
    rw [← hfl]; walk_at "ev"
  have e2 : SS fns (k + 20) ⟨N4, vs'⟩ (nth (bodyAt q0 4) 2) = some (⟨N4, frzAll vs'⟩, .ret (.list (intVals (cs.map (signed w))))) := by
    have h4 := lk_frzl h3
    exact s_retz (e_name_lst h3) (by walk_at "ev")
  exact ⟨_, x_seq e0 (x_seq e1' (x_ret e2))⟩
end Mine
end
section
open PySem PySem.W PyProof.Rows
set_option Elab.async false
set_option maxRecDepth 100000
set_option linter.unusedVariables false
namespace Mine
local macro_rules | `(tactic| walk_at "ev") => `(tactic| (repeat' (with_reducible (first
  | assumption | exact lk_hit | apply lk_miss (by decide +kernel) | exact e_int | exact e_bool
  | apply e_name (by decide +kernel) (by decide +kernel)
  | apply e_bin | exact b_add | exact b_sub | exact b_mulL (by assumption) | exact b_mulR (by assumption) | apply b_fdiv | apply b_mod | apply b_powN
  | apply e_sub (by decide +kernel) | apply s_bytesT | apply s_listT
  | apply e_slice | exact o_none | apply o_some | apply sl_list | apply sl_bytes
  | apply e_callb (by decide +kernel) (by decide +kernel) (by first | exact nb_len (by assumption) | exact nb_range (by assumption) | exact nb_bytes (by assumption) | exact nb_list (by assumption) | exact nb_sum (by assumption) | exact nb_abs (by assumption) | exact nb_max (by assumption) | exact nb_int (by assumption))
  | apply a_of (by decide +kernel) | exact m_nil | apply m_cons
  | apply c_lenb | apply c_len | apply c_bytesb | exact c_rng1 | exact c_rng2 | apply c_rng3 | exact c_abs | exact c_int | exact c_max2 | apply c_list
  | apply e_cmp | exact q_eq | exact q_ne | exact q_lt | exact q_gt | exact q_le | exact q_ge | exact q_eqb | exact q_neb
  | apply t_cmp | apply t_call | apply t_not | apply t_or | exact or_nil | apply or_cons | apply e_neg
  | apply lk_del (by decide +kernel) | apply c_bytesI | apply c_sumI | exact q_neli
  | apply cgA (by decide +kernel) (by decide +kernel)
  | apply e_list | apply e_tup ))))
/-! _law_highest -/
noncomputable abbrev N5 := (scopeAt q0 5).names
noncomputable def DefHi : Def := ⟨[S "samples", S "least"], bodyAt q0 5, scopeAt q0 5⟩
structure HiS where
  k : Int
  t : Int
  h : Int
  p : Int
noncomputable def hiStep (least : Int) (s : HiS) (x : Int) : HiS := if s.t + x ≥ s.h + least then ⟨s.k + 1, s.t + x, s.t + x, s.k + 1⟩ else ⟨s.k + 1, s.t + x, s.h, s.p⟩
noncomputable def hiS (least : Int) (ss : List Int) : HiS := ss.foldl (hiStep least) ⟨0, 0, 0, 0⟩
theorem hiS_app {least x : Int} {ss : List Int} : hiS least (ss ++ [x]) = hiStep least (hiS least ss) x := by
  unfold hiS; rw [List.foldl_append]; rfl
theorem hiS_k {least : Int} {ss : List Int} : ∀ {n : Nat}, n ≤ ss.length → (hiS least (ss.take n)).k = n
  | 0, _ => by rw [List.take_zero]; rfl
  | n + 1, h => by
    rw [List.take_add_one, List.getElem?_eq_getElem (by omega), Option.toList_some, hiS_app]
    have := hiS_k (least := least) (ss := ss) (n := n) (by omega)
    unfold hiStep
    split <;> (simp only [this]; omega)
structure H4 (ss : List Int) (least : Int) (st : HiS) (vs : Vs) : Prop where
  s : lookE vs (S "samples") = some (.val (.list (intVals ss)))
  l : lookE vs (S "least") = some (.val (.int least))
  t : lookE vs (S "total") = some (.val (.int st.t))
  h : lookE vs (S "highest") = some (.val (.int st.h))
  p : lookE vs (S "place") = some (.val (.int st.p))
theorem hi_ok {fns : Str → Option Def} {k : Nat} {least : Int} (hb : NoB fns) (hf : fns (S "_law_highest") = some DefHi) {ss : List Int} (hl : ss.length ≤ 100) :
    (interp fns (k + 22)).cl (S "_law_highest") [.list (intVals ss), .int least] = some (.int (hiS least ss).p) := by
  have hs : (intVals ss).length ≤ lim := by rw [ints_len]; exact Nat.le_trans hl (by decide)
  have g1 : lookE [(S "samples", Ent.val (.list (intVals ss))), (S "least", Ent.val (.int least))] (S "samples") = some (.val (.list (intVals ss))) := lk_cons
  have g2 : lookE [(S "samples", Ent.val (.list (intVals ss))), (S "least", Ent.val (.int least))] (S "least") = some (.val (.int least)) := lk_skip (by decide +kernel) lk_cons
  suffices ∃ fm, (interp fns (k + 21)).ex ⟨N5, [(S "samples", Ent.val (.list (intVals ss))), (S "least", Ent.val (.int least))]⟩ (bodyAt q0 5) = some (fm, .ret (.int (hiS least ss).p)) by
    obtain ⟨fm, h⟩ := this
    exact f_call (n := k + 21) hf rfl h
  generalize hvs : [(S "samples", Ent.val (.list (intVals ss))), (S "least", Ent.val (.int least))] = vs at *
  have e0 : SS fns (k + 20) ⟨N5, vs⟩ (nth (bodyAt q0 5) 0) = some (⟨N5, setE vs (S "total") (.val (.int 0))⟩, .next) := s_asg (by decide +kernel) (by decide +kernel) e_int
  have e1 : SS fns (k + 20) ⟨N5, setE vs (S "total") (.val (.int 0))⟩ (nth (bodyAt q0 5) 1) = some (⟨N5, setE (setE vs (S "total") (.val (.int 0))) (S "highest") (.val (.int 0))⟩, .next) := s_asg (by decide +kernel) (by decide +kernel) e_int
  have e2 : SS fns (k + 20) ⟨N5, setE (setE vs (S "total") (.val (.int 0))) (S "highest") (.val (.int 0))⟩ (nth (bodyAt q0 5) 2) = some (⟨N5, setE (setE (setE vs (S "total") (.val (.int 0))) (S "highest") (.val (.int 0))) (S "place") (.val (.int 0))⟩, .next) := s_asg (by decide +kernel) (by decide +kernel) e_int
  generalize hv1 : setE (setE (setE vs (S "total") (.val (.int 0))) (S "highest") (.val (.int 0))) (S "place") (.val (.int 0)) = vs1 at e2
  have a0 : H4 ss least ⟨0, 0, 0, 0⟩ vs1 := by
    subst hv1
    refine ⟨?_, ?_, ?_, ?_, ?_⟩ <;> (try dsimp only) <;> walk_at "ev"
  obtain ⟨vs', e3, a⟩ := loop_nat (ex := (interp fns (k + 20)).ex) (x := S "k") (xp := nmPos (forTgt (nth (bodyAt q0 5) 3))) (body := inner (nth (bodyAt q0 5) 3)) (N := N5) (m := ss.length)
    (fun i vs => H4 ss least (hiS least (ss.take i)) vs) (by decide +kernel) vs1
    (fun i vs hi ⟨h1, h2, h3, h4, h5⟩ => by
      have hz : smallI (i : Int) = true := small_nat (by omega)
      have hx : indexL (intVals ss) (i : Int) = some (.int ss[i]) := by
        rw [idx_list (by rw [ints_len]; exact hi)]
        simp [intVals]
      have hk := hiS_k (least := least) (ss := ss) (n := i) (by omega)
      have ht : ss.take (i + 1) = ss.take i ++ [ss[i]] := by rw [List.take_add_one, List.getElem?_eq_getElem hi]; rfl
      rw [ht, hiS_app]
      generalize hiS least (ss.take i) = st at *
      have f0 : SS fns (k + 19) ⟨N5, setE vs (S "k") (.val (.int (i : Int)))⟩ (nth (inner (nth (bodyAt q0 5) 3)) 0) = some (⟨N5, setE (setE vs (S "k") (.val (.int (i : Int)))) (S "total") (.val (.int (st.t + ss[i])))⟩, .next) := by
        refine s_aug (a := st.t) (b := ss[i]) rfl (by decide +kernel) ?_ ?_ b_add
        · walk_at "ev"
        · walk_at "ev"
      generalize hv2 : setE (setE vs (S "k") (.val (.int (i : Int)))) (S "total") (.val (.int (st.t + ss[i]))) = vs2 at f0
      have b1 : lookE vs2 (S "samples") = some (.val (.list (intVals ss))) := by subst hv2; walk_at "ev"
      have b2 : lookE vs2 (S "least") = some (.val (.int least)) := by subst hv2; walk_at "ev"
      have b3 : lookE vs2 (S "total") = some (.val (.int (st.t + ss[i]))) := by subst hv2; walk_at "ev"
      have b4 : lookE vs2 (S "highest") = some (.val (.int st.h)) := by subst hv2; walk_at "ev"
      have b5 : lookE vs2 (S "place") = some (.val (.int st.p)) := by subst hv2; walk_at "ev"
      have b6 : lookE vs2 (S "k") = some (.val (.int (i : Int))) := by subst hv2; walk_at "ev"
      clear hv2 h1 h2 h3 h4 h5
      have cmp : (interp fns (k + 19)).tr ⟨N5, vs2⟩ (ifTest (nth (inner (nth (bodyAt q0 5) 3)) 1)) = some (decide (st.t + ss[i] ≥ st.h + least)) := by
        refine t_cmp (e_cmp (a := .int (st.t + ss[i])) (b := .int (st.h + least)) ?_ ?_ q_ge)
        · walk_at "ev"
        · walk_at "ev"
      unfold hiStep
      by_cases hc : st.t + ss[i] ≥ st.h + least
      · rw [if_pos hc]
        rw [decide_eq_true hc] at cmp
        have f1 : SS fns (k + 18) ⟨N5, vs2⟩ (nth (thenB (nth (inner (nth (bodyAt q0 5) 3)) 1)) 0) = some (⟨N5, setE vs2 (S "highest") (.val (.int (st.t + ss[i])))⟩, .next) := by
          refine s_asg (by decide +kernel) (by decide +kernel) ?_
          walk_at "ev"
        have f2 : SS fns (k + 18) ⟨N5, setE vs2 (S "highest") (.val (.int (st.t + ss[i])))⟩ (nth (thenB (nth (inner (nth (bodyAt q0 5) 3)) 1)) 1) = some (⟨N5, setE (setE vs2 (S "highest") (.val (.int (st.t + ss[i])))) (S "place") (.val (.int ((i : Int) + 1)))⟩, .next) := by
          refine s_asg (by decide +kernel) (by decide +kernel) ?_
          walk_at "ev"
        refine ⟨_, x_seq f0 (x_one (s_ifT cmp (x_seq f1 (x_one f2)))), ?_⟩
        rw [hk]
        refine ⟨?_, ?_, ?_, ?_, ?_⟩ <;> (try dsimp only) <;> walk_at "ev"
      · rw [if_neg hc]
        rw [decide_eq_false hc] at cmp
        exact ⟨_, x_seq f0 (x_one (s_ifF cmp x_nil)), b1, b2, b3, b4, b5⟩) a0
  rw [List.take_length] at a
  obtain ⟨c1, c2, c3, c4, c5⟩ := a
  have e3' : SS fns (k + 20) ⟨N5, vs1⟩ (nth (bodyAt q0 5) 3) = some (⟨N5, vs'⟩, .next) := by
    obtain ⟨a1, a2, a3, a4, a5⟩ := a0
    refine s_for (p_gen (v := .rng 0 (ss.length : Int) 1) (by decide +kernel) ?_ (it_nat (by omega)) rfl) e3
    rw [← ints_len]; walk_at "ev"
  have e4 : SS fns (k + 20) ⟨N5, vs'⟩ (nth (bodyAt q0 5) 4) = some (⟨N5, vs'⟩, .ret (.int (hiS least ss).p)) := s_ret (by walk_at "ev")
  exact ⟨_, x_seq e0 (x_seq e1 (x_seq e2 (x_seq e3' (x_ret e4))))⟩
/-! _law_back -/
noncomputable abbrev N6 := (scopeAt q0 6).names
noncomputable def DefBack : Def := ⟨[S "samples", S "least"], bodyAt q0 6, scopeAt q0 6⟩
noncomputable def backF (least : Int) : Nat → List Int → List Int
  | 0, _ => []
  | _, [] => []
  | n + 1, x :: r => if (x :: r).sum ≥ least then x :: backF least n r else (x :: r).getLast (by simp) :: backF least n (x :: r).dropLast
structure K4 (least : Int) (ls ts : List Int) (vs : Vs) : Prop where
  l : lookE vs (S "left") = some (.val (.list (intVals ls)))
  m : lookE vs (S "least") = some (.val (.int least))
  t : lookE vs (S "taken") = some (.lst (intVals ts))
theorem slice_tail {α : Type} {x : α} {r : List α} : sliceL (x :: r) (some 1) none = r := by
  unfold sliceL loN hiN clampN
  simp only
  rw [if_neg (by decide)]
  have : min (1 : Int).toNat (x :: r).length = 1 := by
    rw [List.length_cons]
    show min 1 (r.length + 1) = 1
    omega
  rw [this, List.drop_one, List.tail_cons]
  exact List.take_of_length_le (by simp)
theorem slice_init {α : Type} {l : List α} (h : l ≠ []) : sliceL l none (some (-1)) = l.dropLast := by
  have hp : 0 < l.length := List.length_pos_iff.mpr h
  unfold sliceL loN hiN clampN
  simp only
  rw [if_pos (by decide), List.drop_zero, Nat.sub_zero, List.dropLast_eq_take]
  congr 1
  omega
theorem idx_last {α : Type} {l : List α} (h : l ≠ []) : indexL l (-1) = some (l.getLast h) := by
  have hp : 0 < l.length := List.length_pos_iff.mpr h
  unfold indexL
  rw [if_neg (by decide), if_pos (by omega), show ((-1 : Int) + (l.length : Int)).toNat = l.length - 1 from by omega, List.getElem?_eq_getElem (by omega), List.getLast_eq_getElem]
theorem back_turn {fns : Str → Option Def} {k : Nat} {least : Int} (hb : NoB fns) {x : Int} {r t : List Int} (hl : (x :: r).length ≤ 100) (htl : t.length ≤ 100) {vs : Vs} (H : K4 least (x :: r) t vs) :
    (interp fns (k + 20)).tr ⟨N6, vs⟩ (ifTest (nth (bodyAt q0 6) 2)) = some true ∧ ∃ vs', (interp fns (k + 20)).ex ⟨N6, vs⟩ (inner (nth (bodyAt q0 6) 2)) = some (⟨N6, vs'⟩, .next) ∧
      (if (x :: r).sum ≥ least then K4 least r (t ++ [x]) vs' else K4 least (x :: r).dropLast (t ++ [(x :: r).getLast (by simp)]) vs') := by
  obtain ⟨h1, h2, h3⟩ := H
  have hs : (intVals (x :: r)).length ≤ lim := by rw [ints_len]; exact Nat.le_trans hl (by decide)
  have hs2 : (x :: r).length ≤ lim := Nat.le_trans hl (by decide)
  have ht : (intVals t).length ≤ lim := by rw [ints_len]; exact Nat.le_trans htl (by decide)
  have z0 : smallI 0 = true := by decide +kernel
  have z1 : smallI (-1) = true := by decide +kernel
  have z2 : smallI 1 = true := by decide +kernel
  have hne : intVals (x :: r) ≠ [] := by simp [intVals]
  have hxs : intVals (x :: r) = .int x :: intVals r := rfl
  have cmp0 : (interp fns (k + 20)).tr ⟨N6, vs⟩ (ifTest (nth (bodyAt q0 6) 2)) = some true := by
    have hq : cmpop .NotEq (.list (intVals (x :: r))) (.list []) = some true := (q_nel (asInts_vals _) (b := []) rfl).trans (by simp)
    refine t_cmp (e_cmp (a := .list (intVals (x :: r))) (b := .list []) ?_ (e_list (a_of (by decide +kernel) m_nil) (by decide)) hq)
    walk_at "ev"
  have cmp : (interp fns (k + 19)).tr ⟨N6, vs⟩ (ifTest (nth (inner (nth (bodyAt q0 6) 2)) 0)) = some (decide ((x :: r).sum ≥ least)) := by
    refine t_cmp (e_cmp (a := .int (x :: r).sum) (b := .int least) (e_callb (as := [.list (intVals (x :: r))]) (by decide +kernel) (by decide +kernel) (nb_sum hb) (a_of (by decide +kernel) (m_cons ?_ m_nil)) (c_sumI hs2)) ?_ q_ge)
    all_goals walk_at "ev"
  refine ⟨cmp0, ?_⟩
  by_cases hc : (x :: r).sum ≥ least
  · rw [decide_eq_true hc] at cmp
    have i0 : indexL (intVals (x :: r)) 0 = some (.int x) := rfl
    have f0 : SS fns (k + 18) ⟨N6, vs⟩ (nth (thenB (nth (inner (nth (bodyAt q0 6) 2)) 0)) 0) = some (⟨N6, setE vs (S "taken") (.lst (intVals t ++ [.int x]))⟩, .next) := by
      refine s_app (by decide +kernel) h3 ?_ ht
      walk_at "ev"
    have f1 : SS fns (k + 18) ⟨N6, setE vs (S "taken") (.lst (intVals t ++ [.int x]))⟩ (nth (thenB (nth (inner (nth (bodyAt q0 6) 2)) 0)) 1) = some (⟨N6, setE (setE vs (S "taken") (.lst (intVals t ++ [.int x]))) (S "left") (.val (.list (intVals r)))⟩, .next) := by
      refine s_asg (by decide +kernel) (by decide +kernel) (e_slice (o := .list (intVals (x :: r))) ?_ (o_some e_int) o_none ((sl_list hs).trans (by rw [hxs, slice_tail])))
      walk_at "ev"
    refine ⟨_, x_one (s_ifT cmp (x_seq f0 (x_one f1))), ?_⟩
    rw [if_pos hc]
    refine ⟨lk_hit, ?_, ?_⟩
    · walk_at "ev"
    · have : intVals (t ++ [x]) = intVals t ++ [.int x] := by simp [intVals]
      rw [this]; walk_at "ev"
  · rw [decide_eq_false hc] at cmp
    have i0 : indexL (intVals (x :: r)) (-1) = some (.int ((x :: r).getLast (by simp))) := by
      rw [idx_last hne]
      simp only [intVals, List.getLast_map]
    have f0 : SS fns (k + 18) ⟨N6, vs⟩ (nth (elseB (nth (inner (nth (bodyAt q0 6) 2)) 0)) 0) = some (⟨N6, setE vs (S "taken") (.lst (intVals t ++ [.int ((x :: r).getLast (by simp))]))⟩, .next) := by
      refine s_app (by decide +kernel) h3 (e_sub (o := .list (intVals (x :: r))) (k := .int (-1)) (by decide +kernel) ?_ (e_neg e_int) (s_listT hs z1 i0)) ht
      walk_at "ev"
    have f1 : SS fns (k + 18) ⟨N6, setE vs (S "taken") (.lst (intVals t ++ [.int ((x :: r).getLast (by simp))]))⟩ (nth (elseB (nth (inner (nth (bodyAt q0 6) 2)) 0)) 1) = some (⟨N6, setE (setE vs (S "taken") (.lst (intVals t ++ [.int ((x :: r).getLast (by simp))]))) (S "left") (.val (.list (intVals (x :: r).dropLast)))⟩, .next) := by
      refine s_asg (by decide +kernel) (by decide +kernel) (e_slice (o := .list (intVals (x :: r))) ?_ o_none (o_some (e_neg e_int)) ((sl_list hs).trans (by rw [slice_init hne]; simp only [intVals, List.map_dropLast])))
      walk_at "ev"
    refine ⟨_, x_one (s_ifF cmp (x_seq f0 (x_one f1))), ?_⟩
    rw [if_neg hc]
    refine ⟨lk_hit, ?_, ?_⟩
    · walk_at "ev"
    · have : intVals (t ++ [(x :: r).getLast (by simp)]) = intVals t ++ [.int ((x :: r).getLast (by simp))] := by simp [intVals]
      rw [this]; walk_at "ev"
theorem back_ok {fns : Str → Option Def} {k : Nat} {least : Int} (hb : NoB fns) (hf : fns (S "_law_back") = some DefBack) {ss : List Int} (hl : ss.length ≤ 19) :
    (interp fns (k + 22)).cl (S "_law_back") [.list (intVals ss), .int least] = some (.list (intVals (backF least ss.length ss))) := by
  have g1 : lookE [(S "samples", Ent.val (.list (intVals ss))), (S "least", Ent.val (.int least))] (S "samples") = some (.val (.list (intVals ss))) := lk_cons
  have g2 : lookE [(S "samples", Ent.val (.list (intVals ss))), (S "least", Ent.val (.int least))] (S "least") = some (.val (.int least)) := lk_skip (by decide +kernel) lk_cons
  suffices ∃ fm, (interp fns (k + 21)).ex ⟨N6, [(S "samples", Ent.val (.list (intVals ss))), (S "least", Ent.val (.int least))]⟩ (bodyAt q0 6) = some (fm, .ret (.list (intVals (backF least ss.length ss)))) by
    obtain ⟨fm, h⟩ := this
    exact f_call (n := k + 21) hf rfl h
  generalize hvs : [(S "samples", Ent.val (.list (intVals ss))), (S "least", Ent.val (.int least))] = vs at *
  have e0 : SS fns (k + 20) ⟨N6, vs⟩ (nth (bodyAt q0 6) 0) = some (⟨N6, setE vs (S "left") (.val (.list (intVals ss)))⟩, .next) := by
    refine s_asg (by decide +kernel) (by decide +kernel) ?_
    walk_at "ev"
  have e1 : SS fns (k + 20) ⟨N6, setE vs (S "left") (.val (.list (intVals ss)))⟩ (nth (bodyAt q0 6) 1) = some (⟨N6, setE (setE vs (S "left") (.val (.list (intVals ss)))) (S "taken") (.lst [])⟩, .next) := s_nil (by decide +kernel)
  obtain ⟨vs', e2, l', t', hl0, ht', hK, hE⟩ := loop_while (tr := (interp fns (k + 20)).tr) (ex := (interp fns (k + 20)).ex) (t := ifTest (nth (bodyAt q0 6) 2)) (body := inner (nth (bodyAt q0 6) 2)) (N := N6)
    (fun m vs => ∃ l t, l.length = m ∧ t.length + m ≤ 100 ∧ K4 least l t vs ∧ t ++ backF least m l = backF least ss.length ss)
    (fun vs ⟨l, t, h1, h2, ⟨k1, k2, k3⟩, h4⟩ => by
      obtain rfl := List.eq_nil_of_length_eq_zero h1
      have hq : cmpop .NotEq (.list (intVals [])) (.list []) = some false := (q_nel (a := []) rfl (b := []) rfl).trans (by simp)
      refine t_cmp (e_cmp (a := .list (intVals [])) (b := .list []) ?_ (e_list (a_of (by decide +kernel) m_nil) (by decide)) hq)
      walk_at "ev")
    (fun m vs ⟨l, t, h1, h2, h3, h4⟩ => by
      match l, h1 with
      | x :: r, h1 =>
        have h1' : r.length = m := by simpa using h1
        obtain ⟨q1, vs', q2, q3⟩ := back_turn (k := k) hb (by omega) (by omega) h3
        refine ⟨q1, vs', q2, ?_⟩
        rw [← h4]
        by_cases hc : (x :: r).sum ≥ least
        · rw [if_pos hc] at q3
          refine ⟨r, t ++ [x], h1', by simp; omega, q3, ?_⟩
          rw [backF, if_pos hc, List.append_assoc]; rfl
        · rw [if_neg hc] at q3
          refine ⟨(x :: r).dropLast, t ++ [(x :: r).getLast (by simp)], by rw [List.length_dropLast]; omega, by simp; omega, q3, ?_⟩
          rw [backF, if_neg hc, List.append_assoc]; rfl)
    ss.length (k + 20) (setE (setE vs (S "left") (.val (.list (intVals ss)))) (S "taken") (.lst [])) (by omega) ⟨ss, [], rfl, by simp; omega, ⟨by walk_at "ev", by walk_at "ev", lk_hit⟩, rfl⟩
  have hE' : t' = backF least ss.length ss := by
    rw [← hE]
    obtain rfl := List.eq_nil_of_length_eq_zero hl0
    simp [backF]
  obtain ⟨k1, k2, k3⟩ := hK
  rw [hE'] at k3
  have k4 := lk_frzl k3
  have e2' : SS fns (k + 20) ⟨N6, setE (setE vs (S "left") (.val (.list (intVals ss)))) (S "taken") (.lst [])⟩ (nth (bodyAt q0 6) 2) = some (⟨N6, vs'⟩, .next) := s_while e2
  have e3 : SS fns (k + 20) ⟨N6, vs'⟩ (nth (bodyAt q0 6) 3) = some (⟨N6, frzAll vs'⟩, .ret (.list (intVals (backF least ss.length ss)))) := s_retz (e_name_lst k3) (by walk_at "ev")
  exact ⟨_, x_seq e0 (x_seq e1 (x_seq e2' (x_ret e3)))⟩
end Mine
end
section
open PySem PySem.W PyProof.Rows
set_option Elab.async false
set_option maxRecDepth 100000
set_option linter.unusedVariables false
namespace Mine
local macro_rules | `(tactic| walk_at "ev") => `(tactic| (repeat' (with_reducible (first
  | assumption | exact lk_hit | apply lk_miss (by decide +kernel) | exact e_int | exact e_bool
  | apply e_name (by decide +kernel) (by decide +kernel)
  | apply e_bin | exact b_add | exact b_sub | exact b_mulL (by assumption) | exact b_mulR (by assumption) | apply b_fdiv | apply b_mod | apply b_powN
  | apply e_sub (by decide +kernel) | apply s_bytesT | apply s_listT
  | apply e_slice | exact o_none | apply o_some | apply sl_list | apply sl_bytes
  | apply e_callb (by decide +kernel) (by decide +kernel) (by first | exact nb_len (by assumption) | exact nb_range (by assumption) | exact nb_bytes (by assumption) | exact nb_list (by assumption) | exact nb_sum (by assumption) | exact nb_abs (by assumption) | exact nb_max (by assumption) | exact nb_int (by assumption))
  | apply a_of (by decide +kernel) | exact m_nil | apply m_cons
  | apply c_lenb | apply c_len | apply c_bytesb | exact c_rng1 | exact c_rng2 | apply c_rng3 | exact c_abs | exact c_int | exact c_max2 | apply c_list
  | apply e_cmp | exact q_eq | exact q_ne | exact q_lt | exact q_gt | exact q_le | exact q_ge | exact q_eqb | exact q_neb
  | apply t_cmp | apply t_call | apply t_not | apply t_or | exact or_nil | apply or_cons | apply e_neg
  | apply lk_del (by decide +kernel) | apply c_bytesI | apply c_sumI | exact q_neli
  | apply cgA (by decide +kernel) (by decide +kernel)
  | apply e_list | apply e_tup ))))
/-! the plain law -/
structure PtS where
  a : List Int
  b : List Int
  t : Int
noncomputable def ptStep (least : Int) (s : PtS) (x : Int) : PtS := if s.t + x ≥ least then ⟨s.a ++ [x], s.b, s.t + x⟩ else ⟨s.a, s.b ++ [x], s.t + x⟩
noncomputable def ptS (least : Int) (ss : List Int) : PtS := ss.foldl (ptStep least) ⟨[], [], 0⟩
theorem ptS_app {least x : Int} {ss : List Int} : ptS least (ss ++ [x]) = ptStep least (ptS least ss) x := by
  unfold ptS; rw [List.foldl_append]; rfl
noncomputable def parted (least : Int) (ss : List Int) : List Int := (ptS least ss).a.reverse ++ (ptS least ss).b
theorem parted_app {least x : Int} {ss : List Int} : parted least (ss ++ [x]) = if (ptS least ss).t + x ≥ least then x :: parted least ss else parted least ss ++ [x] := by
  unfold parted
  rw [ptS_app]
  unfold ptStep
  split <;> simp
theorem snoc_ind {P : List Int → Prop} (h0 : P []) (h1 : ∀ l x, P l → P (l ++ [x])) (l : List Int) : P l := by
  have : ∀ r : List Int, P r.reverse := by
    intro r
    induction r with
    | nil => exact h0
    | cons x r ih => rw [List.reverse_cons]; exact h1 _ _ ih
  have h := this l.reverse
  rw [List.reverse_reverse] at h
  exact h
theorem pt_sum {least : Int} (ss : List Int) : (ptS least ss).t = ss.sum ∧ (parted least ss).sum = ss.sum ∧ (parted least ss).length = ss.length ∧ (ptS least ss).a.length + (ptS least ss).b.length = ss.length := by
  induction ss using snoc_ind with
  | h0 => exact ⟨rfl, rfl, rfl, rfl⟩
  | h1 l x ih =>
  obtain ⟨h1, h2, h3, h4⟩ := ih
  rw [parted_app, ptS_app]
  unfold ptStep
  have e : (l ++ [x]).sum = l.sum + x := by simp
  have e2 : (l ++ [x]).length = l.length + 1 := by simp
  rw [e, e2]
  by_cases hc : (ptS least l).t + x ≥ least
  · rw [if_pos hc, if_pos hc]
    refine ⟨by simp only [h1], ?_, ?_, ?_⟩
    · rw [List.sum_cons, h2]; omega
    · rw [List.length_cons, h3]
    · simp only [List.length_append, List.length_cons, List.length_nil]; omega
  · rw [if_neg hc, if_neg hc]
    refine ⟨by simp only [h1], ?_, ?_, ?_⟩
    · rw [List.sum_append, h2]; simp
    · simp only [List.length_append, List.length_cons, List.length_nil, h3]
    · simp only [List.length_append, List.length_cons, List.length_nil]; omega
theorem back_law {least : Int} (ss : List Int) : backF least ss.length (parted least ss) = ss.reverse := by
  induction ss using snoc_ind with
  | h0 => rfl
  | h1 l x ih =>
  obtain ⟨h1, h2, h3, h4⟩ := pt_sum (least := least) l
  have h5 := (pt_sum (least := least) (l ++ [x])).2.1
  rw [parted_app] at h5 ⊢
  have e2 : (l ++ [x]).length = l.length + 1 := by simp
  have e : (l ++ [x]).sum = l.sum + x := by simp
  rw [e] at h5
  rw [e2, List.reverse_append]
  by_cases hc : (ptS least l).t + x ≥ least
  · rw [if_pos hc] at h5 ⊢
    rw [backF, if_pos (by omega), ih]; rfl
  · rw [if_neg hc] at h5 ⊢
    have key : ∀ q : List Int, q ≠ [] → ¬ q.sum ≥ least → ∀ hq, backF least (l.length + 1) q = q.getLast hq :: backF least l.length q.dropLast := by
      intro q hq hs hq'
      cases q with
      | nil => exact absurd rfl hq
      | cons y r => rw [backF, if_neg hs]
    rw [key _ (by simp) (by omega) (by simp), List.getLast_concat, List.dropLast_concat, ih]; rfl
theorem hi_bounds {least : Int} (hl : least = 0 ∨ least = 1) (ss : List Int) : (hiS least ss).t ≤ (hiS least ss).h ∧ 0 ≤ (hiS least ss).h ∧ (hiS least ss).t = ss.sum := by
  induction ss using snoc_ind with
  | h0 => exact ⟨Int.le_refl _, Int.le_refl _, rfl⟩
  | h1 l x ih =>
  obtain ⟨h1, h2, h3⟩ := ih
  rw [hiS_app]
  have e : (l ++ [x]).sum = l.sum + x := by simp
  rw [e]
  unfold hiStep
  split
  · refine ⟨Int.le_refl _, ?_, ?_⟩ <;> dsimp only <;> omega
  · refine ⟨?_, ?_, ?_⟩ <;> dsimp only <;> omega
theorem hi_cons {least x : Int} (hl : least = 0 ∨ least = 1) (ss : List Int) :
    (hiS least (x :: ss)).k = (hiS least ss).k + 1 ∧ (hiS least (x :: ss)).t = x + (hiS least ss).t ∧
      (((hiS least (x :: ss)).h = x + (hiS least ss).h ∧ (hiS least (x :: ss)).p = (hiS least ss).p + 1) ∨ (x + (hiS least ss).h < least ∧ (hiS least (x :: ss)).h = 0 ∧ (hiS least (x :: ss)).p = 0)) := by
  induction ss using snoc_ind with
  | h0 =>
    show (hiStep least ⟨0, 0, 0, 0⟩ x).k = 0 + 1 ∧ (hiStep least ⟨0, 0, 0, 0⟩ x).t = x + 0 ∧ (((hiStep least ⟨0, 0, 0, 0⟩ x).h = x + 0 ∧ (hiStep least ⟨0, 0, 0, 0⟩ x).p = 0 + 1) ∨ (x + 0 < least ∧ (hiStep least ⟨0, 0, 0, 0⟩ x).h = 0 ∧ (hiStep least ⟨0, 0, 0, 0⟩ x).p = 0))
    unfold hiStep
    split <;> (refine ⟨?_, ?_, ?_⟩ <;> dsimp only at * <;> omega)
  | h1 l y ih =>
    obtain ⟨h1, h2, h3⟩ := ih
    rw [← List.cons_append, hiS_app, hiS_app]
    generalize hiS least (x :: l) = s2 at *
    generalize hiS least l = s1 at *
    unfold hiStep
    split <;> split <;> (refine ⟨?_, ?_, ?_⟩ <;> dsimp only <;> omega)
theorem hi_law {least : Int} (hl : least = 0 ∨ least = 1) (ss : List Int) : (hiS least (parted least ss)).p = (ptS least ss).a.length := by
  induction ss using snoc_ind with
  | h0 => rfl
  | h1 l x ih =>
  obtain ⟨h1, h2, h3, h4⟩ := pt_sum (least := least) l
  obtain ⟨b1, b2, b3⟩ := hi_bounds hl (parted least l)
  rw [parted_app, ptS_app]
  unfold ptStep
  by_cases hc : (ptS least l).t + x ≥ least
  · rw [if_pos hc, if_pos hc]
    obtain ⟨_, _, c⟩ := hi_cons (x := x) hl (parted least l)
    simp only [List.length_append, List.length_cons, List.length_nil]
    omega
  · rw [if_neg hc, if_neg hc, hiS_app]
    unfold hiStep
    rw [if_neg (by omega)]
    exact ih
/-! samples and their octets -/
theorem signed_smp {w : Nat} {s : Int} (h1 : 1 ≤ w) (h3 : w ≤ 3) (hlo : -((256 : Int) ^ w).fdiv 2 ≤ s) (hhi : s < ((256 : Int) ^ w).fdiv 2) : signed w (smp w s) = s := by
  have hv : w = 1 ∨ w = 2 ∨ w = 3 := by omega
  rcases hv with e | e | e
  · subst e
    have p1 : (256 : Int) ^ 1 = 256 := by decide
    have q1 : ((256 : Int) ^ 1).fdiv 2 = 128 := by decide
    have v : valB (smp 1 s) = s.fmod 256 := by
      unfold smp octs
      simp only [List.range_succ, List.range_zero, List.nil_append, List.map_cons, List.map_nil, valB, byte_back, Int.pow_zero, Int.fdiv_one, p1]
      rw [Int.fmod_eq_emod_of_nonneg _ (by decide), Int.fmod_eq_emod_of_nonneg _ (by decide)]
      omega
    unfold signed
    rw [v, q1, p1]
    rw [q1] at hlo hhi
    rw [Int.fmod_eq_emod_of_nonneg _ (by decide)]
    split <;> omega
  · subst e
    have p0 : (256 : Int) ^ 0 = 1 := by decide
    have p1 : (256 : Int) ^ 1 = 256 := by decide
    have p2 : (256 : Int) ^ 2 = 65536 := by decide
    have q1 : ((256 : Int) ^ 2).fdiv 2 = 32768 := by decide
    have v : valB (smp 2 s) = s.fmod 65536 := by
      unfold smp octs
      simp only [List.range_succ, List.range_zero, List.nil_append, List.cons_append, List.map_cons, List.map_nil, valB, byte_back, Int.fdiv_one, p0, p1, p2]
      rw [Int.fmod_eq_emod_of_nonneg s (show (0 : Int) ≤ 65536 by decide), Int.fmod_eq_emod_of_nonneg _ (by decide), Int.fmod_eq_emod_of_nonneg _ (by decide), Int.fdiv_eq_ediv_of_nonneg _ (by decide)]
      omega
    unfold signed
    rw [v, q1, p2]
    rw [q1] at hlo hhi
    rw [Int.fmod_eq_emod_of_nonneg _ (by decide)]
    split <;> omega
  · subst e
    have p0 : (256 : Int) ^ 0 = 1 := by decide
    have p1 : (256 : Int) ^ 1 = 256 := by decide
    have p2 : (256 : Int) ^ 2 = 65536 := by decide
    have p3 : (256 : Int) ^ 3 = 16777216 := by decide
    have q1 : ((256 : Int) ^ 3).fdiv 2 = 8388608 := by decide
    have v : valB (smp 3 s) = s.fmod 16777216 := by
      unfold smp octs
      simp only [List.range_succ, List.range_zero, List.nil_append, List.cons_append, List.map_cons, List.map_nil, valB, byte_back, Int.fdiv_one, p0, p1, p2, p3]
      rw [Int.fmod_eq_emod_of_nonneg s (show (0 : Int) ≤ 16777216 by decide), Int.fmod_eq_emod_of_nonneg _ (by decide), Int.fmod_eq_emod_of_nonneg _ (by decide), Int.fmod_eq_emod_of_nonneg _ (by decide), Int.fdiv_eq_ediv_of_nonneg _ (by decide), Int.fdiv_eq_ediv_of_nonneg _ (by decide)]
      omega
    unfold signed
    rw [v, q1, p3]
    rw [q1] at hlo hhi
    rw [Int.fmod_eq_emod_of_nonneg _ (by decide)]
    split <;> omega
theorem rev_flat {cs : List (List UInt8)} : cs.flatten.reverse = (cs.reverse.map List.reverse).flatten := by
  rw [List.reverse_flatten, List.map_reverse]
end Mine
end
section
open PySem PySem.W PyProof.Rows
set_option Elab.async false
set_option maxRecDepth 100000
set_option linter.unusedVariables false
namespace Mine
local macro_rules | `(tactic| walk_at "ev") => `(tactic| (repeat' (with_reducible (first
  | assumption | exact lk_hit | apply lk_miss (by decide +kernel) | exact e_int | exact e_bool
  | apply e_name (by decide +kernel) (by decide +kernel)
  | apply e_bin | exact b_add | exact b_sub | exact b_mulL (by assumption) | exact b_mulR (by assumption) | apply b_fdiv | apply b_mod | apply b_powN
  | apply e_sub (by decide +kernel) | apply s_bytesT | apply s_listT
  | apply e_slice | exact o_none | apply o_some | apply sl_list | apply sl_bytes
  | apply e_callb (by decide +kernel) (by decide +kernel) (by first | exact nb_len (by assumption) | exact nb_range (by assumption) | exact nb_bytes (by assumption) | exact nb_list (by assumption) | exact nb_sum (by assumption) | exact nb_abs (by assumption) | exact nb_max (by assumption) | exact nb_int (by assumption))
  | apply a_of (by decide +kernel) | exact m_nil | apply m_cons
  | apply c_lenb | apply c_len | apply c_bytesb | exact c_rng1 | exact c_rng2 | apply c_rng3 | exact c_abs | exact c_int | exact c_max2 | apply c_list
  | apply e_cmp | exact q_eq | exact q_ne | exact q_lt | exact q_gt | exact q_le | exact q_ge | exact q_eqb | exact q_neb
  | apply t_cmp | apply t_call | apply t_not | apply t_or | exact or_nil | apply or_cons | apply e_neg
  | apply lk_del (by decide +kernel) | apply c_bytesI | apply c_sumI | exact q_neli
  | apply cgA (by decide +kernel) (by decide +kernel)
  | apply e_list | apply e_tup ))))
noncomputable abbrev N7 := (scopeAt q0 7).names
structure F4 (fns : Str → Option Def) : Prop where
  bs : fns (S "_byteswap") = some DefBs
  oct : fns (S "_law_octets") = some DefOct
  sam : fns (S "_law_samples") = some DefSam
  hi : fns (S "_law_highest") = some DefHi
  back : fns (S "_law_back") = some DefBack
structure T4 (w : Nat) (track : List Int) (vs : Vs) : Prop where
  w : lookE vs (S "width") = some (.val (.int w))
  t : lookE vs (S "track") = some (.val (.list (intVals track)))
noncomputable abbrev lp0 : Stmt := nth (bodyAt q0 7) 4
noncomputable abbrev lp1 : Stmt := nth (inner lp0) 0
structure A4 (w : Nat) (track : List Int) (i : Nat) (least : Int) (st : PtS) (vs : Vs) : Prop where
  w : lookE vs (S "width") = some (.val (.int w))
  t : lookE vs (S "track") = some (.val (.list (intVals track)))
  i : lookE vs (S "size") = some (.val (.int (i : Int)))
  l : lookE vs (S "least") = some (.val (.int least))
  a : lookE vs (S "ahead") = some (.lst (intVals st.a))
  b : lookE vs (S "behind") = some (.lst (intVals st.b))
  s : lookE vs (S "total") = some (.val (.int st.t))
theorem sl_ints {l : List Int} {m : Nat} (h : l.length ≤ 100) : slicing (.list (intVals l)) none (some (m : Int)) = some (.list (intVals (l.take m))) := by
  rw [sl_list (by rw [ints_len]; exact Nat.le_trans h (by decide)), slice_to, ints_take]
theorem ints_snoc {l : List Int} {x : Int} : intVals (l ++ [x]) = intVals l ++ [.int x] := by simp [intVals]
theorem ints_app {l m : List Int} : intVals (l ++ m) = intVals l ++ intVals m := by simp [intVals]
theorem part4_ok {fns : Str → Option Def} {k w i : Nat} {least : Int} (hb : NoB fns) {track : List Int} (ht : track.length ≤ 7) {vs : Vs} (H : A4 w track i least ⟨[], [], 0⟩ vs) :
    ∃ vs', SS fns (k + 40) ⟨N7, vs⟩ (nth (inner lp1) 3) = some (⟨N7, vs'⟩, .next) ∧ A4 w track i least (ptS least (track.take i)) vs' := by
  have htl : (track.take i).length ≤ 7 := Nat.le_trans (List.length_take_le' _ _) ht
  have hsl : (intVals (track.take i)).length ≤ lim := by rw [ints_len]; exact Nat.le_trans htl (by decide)
  obtain ⟨vs', e, h⟩ := loop_inv (ex := (interp fns (k + 40)).ex) (x := S "sample") (xp := nmPos (forTgt (nth (inner lp1) 3))) (body := inner (nth (inner lp1) 3)) (N := N7) PV.int
    (fun pre vs => A4 w track i least (ptS least pre) vs) (by decide +kernel) (track.take i) [] vs
    (fun pre x post vs e ⟨h1, h2, h3, h4, h5, h6, h7⟩ => by
      have hpl : pre.length ≤ 7 := by
        have := congrArg List.length e
        simp only [List.length_append, List.length_cons] at this
        omega
      have hab := (pt_sum (least := least) pre).2.2.2
      rw [ptS_app]
      generalize ptS least pre = st at *
      have f0 : SS fns (k + 39) ⟨N7, setE vs (S "sample") (.val (.int x))⟩ (nth (inner (nth (inner lp1) 3)) 0) = some (⟨N7, setE (setE vs (S "sample") (.val (.int x))) (S "total") (.val (.int (st.t + x)))⟩, .next) := by
        refine s_aug (a := st.t) (b := x) rfl (by decide +kernel) ?_ ?_ b_add
        · walk_at "ev"
        · walk_at "ev"
      generalize hv2 : setE (setE vs (S "sample") (.val (.int x))) (S "total") (.val (.int (st.t + x))) = vs2 at f0
      have b1 : lookE vs2 (S "width") = some (.val (.int w)) := by subst hv2; walk_at "ev"
      have b2 : lookE vs2 (S "track") = some (.val (.list (intVals track))) := by subst hv2; walk_at "ev"
      have b3 : lookE vs2 (S "size") = some (.val (.int (i : Int))) := by subst hv2; walk_at "ev"
      have b4 : lookE vs2 (S "least") = some (.val (.int least)) := by subst hv2; walk_at "ev"
      have b5 : lookE vs2 (S "ahead") = some (.lst (intVals st.a)) := by subst hv2; walk_at "ev"
      have b6 : lookE vs2 (S "behind") = some (.lst (intVals st.b)) := by subst hv2; walk_at "ev"
      have b7 : lookE vs2 (S "total") = some (.val (.int (st.t + x))) := by subst hv2; walk_at "ev"
      have b8 : lookE vs2 (S "sample") = some (.val (.int x)) := by subst hv2; walk_at "ev"
      clear hv2 h1 h2 h3 h4 h5 h6 h7
      have cmp : (interp fns (k + 39)).tr ⟨N7, vs2⟩ (ifTest (nth (inner (nth (inner lp1) 3)) 1)) = some (decide (st.t + x ≥ least)) := by
        refine t_cmp (e_cmp (a := .int (st.t + x)) (b := .int least) ?_ ?_ q_ge)
        · walk_at "ev"
        · walk_at "ev"
      unfold ptStep
      by_cases hc : st.t + x ≥ least
      · rw [if_pos hc]
        rw [decide_eq_true hc] at cmp
        have f1 : SS fns (k + 38) ⟨N7, vs2⟩ (nth (thenB (nth (inner (nth (inner lp1) 3)) 1)) 0) = some (⟨N7, setE vs2 (S "ahead") (.lst (intVals (st.a ++ [x])))⟩, .next) := by
          rw [ints_snoc]
          refine s_app (by decide +kernel) b5 ?_ (by rw [ints_len]; exact Nat.le_trans (show st.a.length ≤ 7 by omega) (by decide))
          walk_at "ev"
        refine ⟨_, x_seq f0 (x_one (s_ifT cmp (x_one f1))), ?_⟩
        refine ⟨?_, ?_, ?_, ?_, ?_, ?_, ?_⟩ <;> (try dsimp only) <;> walk_at "ev"
      · rw [if_neg hc]
        rw [decide_eq_false hc] at cmp
        have f1 : SS fns (k + 38) ⟨N7, vs2⟩ (nth (elseB (nth (inner (nth (inner lp1) 3)) 1)) 0) = some (⟨N7, setE vs2 (S "behind") (.lst (intVals (st.b ++ [x])))⟩, .next) := by
          rw [ints_snoc]
          refine s_app (by decide +kernel) b6 ?_ (by rw [ints_len]; exact Nat.le_trans (show st.b.length ≤ 7 by omega) (by decide))
          walk_at "ev"
        refine ⟨_, x_seq f0 (x_one (s_ifF cmp (x_one f1))), ?_⟩
        refine ⟨?_, ?_, ?_, ?_, ?_, ?_, ?_⟩ <;> (try dsimp only) <;> walk_at "ev") H
  refine ⟨vs', ?_, h⟩
  obtain ⟨h1, h2, h3, h4, h5, h6, h7⟩ := H
  refine s_for (p_gen (v := .list (intVals (track.take i))) (by decide +kernel) (e_slice (o := .list (intVals track)) ?_ o_none (o_some ?_) (sl_ints (by omega))) (it_list hsl) rfl) e
  · walk_at "ev"
  · walk_at "ev"
theorem range_rev {α β : Type} {F : Nat → β} {G : α → β} {l : List α} (h : ∀ j (hj : j < l.length), F j = G (l[l.length - 1 - j]'(by omega))) : (List.range l.length).map F = (l.map G).reverse := by
  refine List.ext_getElem (by simp) fun j h1 h2 => ?_
  have hj : j < l.length := by simpa using h1
  simp only [List.getElem_map, List.getElem_range, List.getElem_reverse, List.length_map]
  exact h j hj
theorem bytes_rev {b : List UInt8} : bytesInts b.reverse = (bytesInts b).reverse := by unfold bytesInts; rw [List.map_reverse]
set_option maxHeartbeats 1000000 in
theorem least_turn {fns : Str → Option Def} {k w i : Nat} {least : Int} (hb : NoB fns) (F : F4 fns) (hw1 : 1 ≤ w) (hw : w ≤ 3) (hle : least = 0 ∨ least = 1) {track : List Int} (ht : track.length ≤ 7) (hi : i ≤ track.length)
    (hr : ∀ s ∈ track, -((256 : Int) ^ w).fdiv 2 ≤ s ∧ s < ((256 : Int) ^ w).fdiv 2) {vs : Vs} (T : T4 w track vs) (hs : lookE vs (S "size") = some (.val (.int (i : Int)))) :
    ∃ vs', (interp fns (k + 41)).ex ⟨N7, setE vs (S "least") (.val (.int least))⟩ (inner lp1) = some (⟨N7, vs'⟩, .next) ∧ T4 w track vs' ∧ lookE vs' (S "size") = some (.val (.int (i : Int))) := by
  obtain ⟨t1, t2⟩ := T
  have e0 : SS fns (k + 40) ⟨N7, setE vs (S "least") (.val (.int least))⟩ (nth (inner lp1) 0) = some (⟨N7, setE (setE vs (S "least") (.val (.int least))) (S "ahead") (.lst [])⟩, .next) := s_nil (by decide +kernel)
  have e1 : SS fns (k + 40) ⟨N7, setE (setE vs (S "least") (.val (.int least))) (S "ahead") (.lst [])⟩ (nth (inner lp1) 1) = some (⟨N7, setE (setE (setE vs (S "least") (.val (.int least))) (S "ahead") (.lst [])) (S "behind") (.lst [])⟩, .next) := s_nil (by decide +kernel)
  have e2 : SS fns (k + 40) ⟨N7, setE (setE (setE vs (S "least") (.val (.int least))) (S "ahead") (.lst [])) (S "behind") (.lst [])⟩ (nth (inner lp1) 2) = some (⟨N7, setE (setE (setE (setE vs (S "least") (.val (.int least))) (S "ahead") (.lst [])) (S "behind") (.lst [])) (S "total") (.val (.int 0))⟩, .next) := s_asg (by decide +kernel) (by decide +kernel) e_int
  generalize hv1 : setE (setE (setE (setE vs (S "least") (.val (.int least))) (S "ahead") (.lst [])) (S "behind") (.lst [])) (S "total") (.val (.int 0)) = vs1 at e2
  have a0 : A4 w track i least ⟨[], [], 0⟩ vs1 := by
    subst hv1
    have n0 : intVals ([] : List Int) = [] := rfl
    refine ⟨?_, ?_, ?_, ?_, ?_, ?_, ?_⟩ <;> (try dsimp only) <;> (try rw [n0]) <;> walk_at "ev"
  obtain ⟨vs2, e3, b1, b2, b3, b4, b5, b6, b7⟩ := part4_ok (k := k) hb ht a0
  clear hv1 a0 t1 t2 hs
  obtain ⟨pre, hpre⟩ : ∃ pre, pre = track.take i := ⟨_, rfl⟩
  have hpl : pre.length = i := by rw [hpre, List.length_take]; omega
  rw [← hpre] at b5 b6 b7
  have hab := (pt_sum (least := least) pre).2.2.2
  have hplen := (pt_sum (least := least) pre).2.2.1
  have hhi := hi_law (least := least) hle pre
  have hbk := back_law (least := least) pre
  have hpd : parted least pre = (ptS least pre).a.reverse ++ (ptS least pre).b := rfl
  obtain ⟨A, hA⟩ : ∃ A, A = (ptS least pre).a := ⟨_, rfl⟩
  obtain ⟨B, hB⟩ : ∃ B, B = (ptS least pre).b := ⟨_, rfl⟩
  have hmem : ∀ x ∈ A, x ∈ track := by
    have key : ∀ l : List Int, ∀ x ∈ (ptS least l).a, x ∈ l := by
      intro l
      induction l using snoc_ind with
      | h0 => intro x hx; cases hx
      | h1 l y ih =>
        intro x hx
        rw [ptS_app] at hx
        unfold ptStep at hx
        split at hx
        · rcases List.mem_append.mp hx with h | h
          · exact List.mem_append_left _ (ih x h)
          · exact List.mem_append_right _ h
        · exact List.mem_append_left _ (ih x hx)
    intro x hx
    rw [hA] at hx
    have := key pre x hx
    rw [hpre] at this
    exact List.mem_of_mem_take this
  rw [← hA, ← hB] at hab hpd
  rw [← hA] at b5 hhi
  rw [← hB] at b6
  have hAl : A.length ≤ 7 := by omega
  have hBl : B.length ≤ 7 := by omega
  -- octets
  have c1 := lk_frzv b1
  have c2 := lk_frzv b2
  have c3 := lk_frzv b3
  have c4 := lk_frzv b4
  have c5 := lk_frzl b5
  have c6 := lk_frzl b6
  obtain ⟨oc, hoc⟩ : ∃ oc, oc = (A.map (smp w)).flatten := ⟨_, rfl⟩
  have hsm : ∀ l : List Int, ∀ c ∈ l.map (smp w), c.length = w := fun l c h => by
    obtain ⟨x, _, rfl⟩ := List.mem_map.mp h
    exact smp_len
  have hocl : oc.length = w * A.length := by rw [hoc, flat_len (hsm A), List.length_map]
  have hocs : oc.length ≤ 21 := by rw [hocl]; exact Nat.mul_le_mul hw hAl
  have hocm : oc.length ≤ lim := Nat.le_trans hocs (by decide)
  have e4 : SS fns (k + 40) ⟨N7, vs2⟩ (nth (inner lp1) 4) = some (⟨N7, setE (frzAll vs2) (S "octets") (.val (.bytes oc))⟩, .next) := by
    refine s_asgz (by decide +kernel) (by decide +kernel) (e_call_none (by decide +kernel) (m_none (e_name_lst b5))) (e_callf (as := [.list (intVals A), .int w]) (by decide +kernel) (by decide +kernel) F.oct (a_of (by decide +kernel) (m_cons ?_ (m_cons ?_ m_nil))) ?_)
    · walk_at "ev"
    · walk_at "ev"
    · rw [hoc]; exact oct_ok hb F.oct (by omega) (by omega)
  generalize hv3 : setE (frzAll vs2) (S "octets") (.val (.bytes oc)) = vs3 at e4
  have d1 : lookE vs3 (S "width") = some (.val (.int w)) := by subst hv3; walk_at "ev"
  have d2 : lookE vs3 (S "track") = some (.val (.list (intVals track))) := by subst hv3; walk_at "ev"
  have d3 : lookE vs3 (S "size") = some (.val (.int (i : Int))) := by subst hv3; walk_at "ev"
  have d4 : lookE vs3 (S "least") = some (.val (.int least)) := by subst hv3; walk_at "ev"
  have d5 : lookE vs3 (S "ahead") = some (.val (.list (intVals A))) := by subst hv3; walk_at "ev"
  have d6 : lookE vs3 (S "behind") = some (.val (.list (intVals B))) := by subst hv3; walk_at "ev"
  have d7 : lookE vs3 (S "octets") = some (.val (.bytes oc)) := by subst hv3; walk_at "ev"
  clear hv3 b1 b2 b3 b4 b5 b6 b7 c1 c2 c3 c4 c5 c6
  -- once
  obtain ⟨W, hW⟩ : ∃ W, W = max 1 oc.length := ⟨_, rfl⟩
  have hmax : (if (oc.length : Int) > 1 then (oc.length : Int) else 1) = (W : Int) := by rw [hW]; split <;> omega
  have hsw : ∀ {k : Nat}, (interp fns (k + 23)).cl (S "_byteswap") [.bytes oc, .int W] = some (.bytes oc.reverse) := by
    intro k
    by_cases hz : oc = []
    · have := bs_ok (fns := fns) (k := k) (w := W) hb F.bs (by omega) (by omega) (cs := []) (fun c h => by cases h) (by simp)
      rw [hz]
      exact this
    · have hp : 0 < oc.length := List.length_pos_iff.mpr hz
      have := bs_ok (fns := fns) (k := k) (w := W) hb F.bs (by omega) (by omega) (cs := [oc]) (fun c h => by rw [List.mem_singleton.mp h]; omega) (by simp; omega)
      simp only [List.map_cons, List.map_nil, List.flatten_cons, List.flatten_nil, List.append_nil] at this
      exact this
  have e5 : SS fns (k + 40) ⟨N7, vs3⟩ (nth (inner lp1) 5) = some (⟨N7, setE vs3 (S "once") (.val (.bytes oc.reverse))⟩, .next) := by
    refine s_asg (by decide +kernel) (by decide +kernel) (e_callf (as := [.bytes oc, .int W]) (by decide +kernel) (by decide +kernel) F.bs (a_of (by decide +kernel) (m_cons ?_ (m_cons ?_ m_nil))) hsw)
    · walk_at "ev"
    · rw [← hmax]
      refine e_callb (as := [.int 1, .int (oc.length : Int)]) (by decide +kernel) (by decide +kernel) (nb_max hb) (a_of (by decide +kernel) (m_cons e_int (m_cons ?_ m_nil))) c_max2
      walk_at "ev"
  generalize hv4 : setE vs3 (S "once") (.val (.bytes oc.reverse)) = vs4 at e5
  have f1 : lookE vs4 (S "width") = some (.val (.int w)) := by subst hv4; walk_at "ev"
  have f2 : lookE vs4 (S "track") = some (.val (.list (intVals track))) := by subst hv4; walk_at "ev"
  have f3 : lookE vs4 (S "size") = some (.val (.int (i : Int))) := by subst hv4; walk_at "ev"
  have f4 : lookE vs4 (S "least") = some (.val (.int least)) := by subst hv4; walk_at "ev"
  have f5 : lookE vs4 (S "ahead") = some (.val (.list (intVals A))) := by subst hv4; walk_at "ev"
  have f6 : lookE vs4 (S "behind") = some (.val (.list (intVals B))) := by subst hv4; walk_at "ev"
  have f7 : lookE vs4 (S "octets") = some (.val (.bytes oc)) := by subst hv4; walk_at "ev"
  have f8 : lookE vs4 (S "once") = some (.val (.bytes oc.reverse)) := by subst hv4; walk_at "ev"
  clear hv4 d1 d2 d3 d4 d5 d6 d7
  have e6 : SS fns (k + 40) ⟨N7, vs4⟩ (nth (inner lp1) 6) = some (⟨N7, vs4⟩, .next) := by
    have hq : (oc.reverse != oc.reverse) = false := by simp
    refine s_ifF (t_cmp (e_cmp (a := .bytes oc.reverse) (b := .bytes oc.reverse) ?_ ?_ (q_neb.trans (by rw [hq])))) x_nil
    · walk_at "ev"
    · refine e_callb (as := [.list (bytesInts oc.reverse)]) (by decide +kernel) (by decide +kernel) (nb_bytes hb) (a_of (by decide +kernel) (m_cons (e_comp ?_) m_nil)) (c_bytesI (by rw [List.length_reverse]; exact hocm))
      have hm : (List.range oc.length).map (fun j : Nat => PV.int (if h : j < oc.length then ((oc[oc.length - 1 - j]'(by omega)).toNat : Int) else 0)) = bytesInts oc.reverse := by
        rw [range_rev (G := fun c : UInt8 => PV.int (c.toNat : Int)) fun j hj => by rw [dif_pos hj], bytes_rev]; rfl
      rw [← hm]
      refine comp1 (L := List.range oc.length) (u := fun j : Nat => PV.int (j : Int)) (by decide +kernel) (by decide +kernel) (p_gen (v := .rng 0 (oc.length : Int) 1) (by decide +kernel) ?_ (it_nat (by omega)) rfl) (by rw [List.length_range]; exact hocm) fun j hj => ?_
      · walk_at "ev"
      · have hj' : j < oc.length := by simpa using hj
        rw [dif_pos hj']
        have g1 : indexL oc ((oc.length : Int) - 1 - (j : Int)) = some (oc[oc.length - 1 - j]'(by omega)) := by
          unfold indexL
          rw [if_pos (by omega), show ((oc.length : Int) - 1 - (j : Int)).toNat = oc.length - 1 - j from by omega, List.getElem?_eq_getElem]
        have g2 : smallI ((oc.length : Int) - 1 - (j : Int)) = true := smallOf (by omega) (by omega)
        walk_at "ev"
  -- turned
  have hrv : oc.reverse = ((A.reverse.map (smp w)).map List.reverse).flatten := by
    rw [hoc, rev_flat]; simp only [List.map_reverse]
  have e7 : SS fns (k + 40) ⟨N7, vs4⟩ (nth (inner lp1) 7) = some (⟨N7, setE vs4 (S "turned") (.val (.bytes (A.reverse.map (smp w)).flatten))⟩, .next) := by
    have hc2 : ∀ c ∈ (A.reverse.map (smp w)).map List.reverse, c.length = w := fun d hd => by
      obtain ⟨c, hc, rfl⟩ := List.mem_map.mp hd
      rw [List.length_reverse]; exact hsm _ c hc
    have hwl : w * ((A.reverse.map (smp w)).map List.reverse).length ≤ 1000 := by
      rw [List.length_map, List.length_map, List.length_reverse]
      exact Nat.le_trans (Nat.mul_le_mul hw hAl) (by decide)
    refine s_asg (by decide +kernel) (by decide +kernel) (e_callf (as := [.bytes oc.reverse, .int w]) (by decide +kernel) (by decide +kernel) F.bs (a_of (by decide +kernel) (m_cons ?_ (m_cons ?_ m_nil))) ?_)
    · walk_at "ev"
    · walk_at "ev"
    · rw [hrv]
      exact (bs_ok (w := w) hb F.bs (by omega) (by omega) hc2 hwl).trans (by rw [map_rev_rev])
  generalize hv5 : setE vs4 (S "turned") (.val (.bytes (A.reverse.map (smp w)).flatten)) = vs5 at e7
  have g1 : lookE vs5 (S "width") = some (.val (.int w)) := by subst hv5; walk_at "ev"
  have g2 : lookE vs5 (S "track") = some (.val (.list (intVals track))) := by subst hv5; walk_at "ev"
  have g3 : lookE vs5 (S "size") = some (.val (.int (i : Int))) := by subst hv5; walk_at "ev"
  have g4 : lookE vs5 (S "least") = some (.val (.int least)) := by subst hv5; walk_at "ev"
  have g5 : lookE vs5 (S "ahead") = some (.val (.list (intVals A))) := by subst hv5; walk_at "ev"
  have g6 : lookE vs5 (S "behind") = some (.val (.list (intVals B))) := by subst hv5; walk_at "ev"
  have g8 : lookE vs5 (S "turned") = some (.val (.bytes (A.reverse.map (smp w)).flatten)) := by subst hv5; walk_at "ev"
  clear hv5 f1 f2 f3 f4 f5 f6 f7 f8
  have hsg : (A.reverse.map (smp w)).map (signed w) = A.reverse := by
    rw [List.map_map]
    conv => rhs; rw [← List.map_id A.reverse]
    exact List.map_congr_left fun x hx => by
      have hx' := hmem x (List.mem_reverse.mp hx)
      exact signed_smp hw1 hw (hr x hx').1 (hr x hx').2
  have hpl7 : (parted least pre).length ≤ 7 := by omega
  have e8 : SS fns (k + 40) ⟨N7, vs5⟩ (nth (inner lp1) 8) = some (⟨N7, setE vs5 (S "parted") (.val (.list (intVals (parted least pre))))⟩, .next) := by
    rw [hpd, ints_app]
    refine s_asg (by decide +kernel) (by decide +kernel) (e_bin (a := .list (intVals A.reverse)) (b := .list (intVals B)) (e_callf (as := [.bytes (A.reverse.map (smp w)).flatten, .int w]) (by decide +kernel) (by decide +kernel) F.sam (a_of (by decide +kernel) (m_cons ?_ (m_cons ?_ m_nil))) ?_) ?_ (b_addl ?_))
    · walk_at "ev"
    · walk_at "ev"
    · refine (sam_ok (w := w) hb F.sam (by omega) (by omega) (hsm A.reverse) ?_).trans (by rw [hsg])
      rw [List.length_map, List.length_reverse]
      exact Nat.le_trans (Nat.mul_le_mul hw hAl) (by decide)
    · walk_at "ev"
    · rw [ints_len, ints_len, List.length_reverse]
      exact Nat.le_trans (Nat.add_le_add hAl hBl) (by decide)
  generalize hv6 : setE vs5 (S "parted") (.val (.list (intVals (parted least pre)))) = vs6 at e8
  have j1 : lookE vs6 (S "width") = some (.val (.int w)) := by subst hv6; walk_at "ev"
  have j2 : lookE vs6 (S "track") = some (.val (.list (intVals track))) := by subst hv6; walk_at "ev"
  have j3 : lookE vs6 (S "size") = some (.val (.int (i : Int))) := by subst hv6; walk_at "ev"
  have j4 : lookE vs6 (S "least") = some (.val (.int least)) := by subst hv6; walk_at "ev"
  have j5 : lookE vs6 (S "ahead") = some (.val (.list (intVals A))) := by subst hv6; walk_at "ev"
  have j8 : lookE vs6 (S "turned") = some (.val (.bytes (A.reverse.map (smp w)).flatten)) := by subst hv6; walk_at "ev"
  have j9 : lookE vs6 (S "parted") = some (.val (.list (intVals (parted least pre)))) := by subst hv6; walk_at "ev"
  clear hv6 g1 g2 g3 g4 g5 g6 g8
  have e9 : SS fns (k + 40) ⟨N7, vs6⟩ (nth (inner lp1) 9) = some (⟨N7, vs6⟩, .next) := by
    have hq : ((!true) || (((A.length : Int) != (A.length : Int)) || false)) = false := by simp
    have hlenA : bcall (S "len") [.list (intVals A)] = some (.int (A.length : Int)) := by
      rw [← ints_len (a := A)]; exact c_len (by rw [ints_len]; exact Nat.le_trans hAl (by decide))
    refine s_ifF ?_ x_nil
    rw [← hq]
    refine t_or (or_cons (t_not (t_call (e_isbytes (b := (A.reverse.map (smp w)).flatten) (by decide +kernel) (by decide +kernel) ?_))) (or_cons (t_cmp (e_cmp (a := .int (A.length : Int)) (b := .int (A.length : Int)) ?_ ?_ q_ne)) or_nil))
    · walk_at "ev"
    · rw [← hhi]
      refine e_callf (as := [.list (intVals (parted least pre)), .int least]) (by decide +kernel) (by decide +kernel) F.hi (a_of (by decide +kernel) (m_cons ?_ (m_cons ?_ m_nil))) (hi_ok hb F.hi (by omega))
      all_goals walk_at "ev"
    · refine e_callb (as := [.list (intVals A)]) (by decide +kernel) (by decide +kernel) (nb_len hb) (a_of (by decide +kernel) (m_cons ?_ m_nil)) hlenA
      walk_at "ev"
  have e10 : SS fns (k + 40) ⟨N7, vs6⟩ (nth (inner lp1) 10) = some (⟨N7, vs6⟩, .next) := by
    refine s_ifF (t_cmp (e_cmp (a := .list (intVals pre.reverse)) (b := .list (intVals pre.reverse)) ?_ (e_comp ?_) (q_neli.trans (by simp)))) x_nil
    · refine e_callf (as := [.list (intVals (parted least pre)), .int least]) (by decide +kernel) (by decide +kernel) F.back (a_of (by decide +kernel) (m_cons ?_ (m_cons ?_ m_nil))) ((back_ok hb F.back (by omega)).trans (by rw [hplen, hbk]))
      all_goals walk_at "ev"
    · have hm : (List.range pre.length).map (fun j : Nat => PV.int (if h : j < pre.length then pre[pre.length - 1 - j]'(by omega) else 0)) = intVals pre.reverse := by
        rw [range_rev (G := PV.int) fun j hj => by rw [dif_pos hj]]
        unfold intVals
        rw [List.map_reverse]
      rw [← hm]
      refine comp1 (L := List.range pre.length) (u := fun j : Nat => PV.int (j : Int)) (by decide +kernel) (by decide +kernel) (p_gen (v := .rng 0 (pre.length : Int) 1) (by decide +kernel) ?_ (it_nat (by omega)) rfl) (by rw [List.length_range]; exact Nat.le_trans (show pre.length ≤ 7 by omega) (by decide)) fun j hj => ?_
      · rw [hpl]; walk_at "ev"
      · have hj' : j < pre.length := by simpa using hj
        rw [dif_pos hj']
        have hlim : (intVals track).length ≤ lim := by rw [ints_len]; exact Nat.le_trans ht (by decide)
        have q1 : indexL (intVals track) ((i : Int) - 1 - (j : Int)) = some (.int (pre[pre.length - 1 - j]'(by omega))) := by
          unfold indexL
          rw [if_pos (by omega), show ((i : Int) - 1 - (j : Int)).toNat = pre.length - 1 - j from by omega]
          have hlt : pre.length - 1 - j < track.length := by omega
          rw [List.getElem?_eq_getElem (by rw [ints_len]; exact hlt)]
          simp only [intVals, List.getElem_map, hpre, List.getElem_take]
        have q2 : smallI ((i : Int) - 1 - (j : Int)) = true := smallOf (by omega) (by omega)
        walk_at "ev"
  refine ⟨vs6, x_seq e0 (x_seq e1 (x_seq e2 (x_seq e3 (x_seq e4 (x_seq e5 (x_seq e6 (x_seq e7 (x_seq e8 (x_seq e9 (x_one e10)))))))))), ⟨j1, j2⟩, j3⟩
end Mine
end
section
open PySem PySem.W PyProof.Rows
set_option Elab.async false
set_option maxRecDepth 100000
set_option linter.unusedVariables false
namespace Mine
local macro_rules | `(tactic| walk_at "ev") => `(tactic| (repeat' (with_reducible (first
  | assumption | exact lk_hit | apply lk_miss (by decide +kernel) | exact e_int | exact e_bool
  | apply e_name (by decide +kernel) (by decide +kernel)
  | apply e_bin | exact b_add | exact b_sub | exact b_mulL (by assumption) | exact b_mulR (by assumption) | apply b_fdiv | apply b_mod | apply b_powN
  | apply e_sub (by decide +kernel) | apply s_bytesT | apply s_listT
  | apply e_slice | exact o_none | apply o_some | apply sl_list | apply sl_bytes
  | apply e_callb (by decide +kernel) (by decide +kernel) (by first | exact nb_len (by assumption) | exact nb_range (by assumption) | exact nb_bytes (by assumption) | exact nb_list (by assumption) | exact nb_sum (by assumption) | exact nb_abs (by assumption) | exact nb_max (by assumption) | exact nb_int (by assumption))
  | apply a_of (by decide +kernel) | exact m_nil | apply m_cons
  | apply c_lenb | apply c_len | apply c_bytesb | exact c_rng1 | exact c_rng2 | apply c_rng3 | exact c_abs | exact c_int | exact c_max2 | apply c_list
  | apply e_cmp | exact q_eq | exact q_ne | exact q_lt | exact q_gt | exact q_le | exact q_ge | exact q_eqb | exact q_neb
  | apply t_cmp | apply t_call | apply t_not | apply t_or | exact or_nil | apply or_cons | apply e_neg
  | apply lk_del (by decide +kernel) | apply c_bytesI | apply c_sumI | exact q_neli
  | apply cgA (by decide +kernel) (by decide +kernel)
  | apply e_list | apply e_tup ))))
noncomputable def DefLaw4 : Def := ⟨[S "script"], bodyAt q0 7, scopeAt q0 7⟩
theorem zips_zip : ∀ {a b : List Int}, zips (intVals a) (intVals b) = (a.zip b).map fun p : Int × Int => .tup [.int p.1, .int p.2]
  | [], _ => by simp [zips, intVals]
  | _ :: _, [] => by simp [zips, intVals]
  | x :: a, y :: b => by
    have := zips_zip (a := a) (b := b)
    unfold zips intVals at this ⊢
    simp only [List.map_cons, List.zip_cons_cons]
    rw [this]
noncomputable abbrev c7 : List Int := [3, -5, 4, -1, -2, 6, -4]
noncomputable abbrev z7 : List Int := [0, 0, 0, 0, 0, 0, 0]
theorem law4_ok {fns : Str → Option Def} {k : Nat} (hb : NoB fns) (F : F4 fns) (hf : fns (S "law") = some DefLaw4) {ns : List Int} (hn : ns.length ≤ 63) : (interp fns (k + 44)).cl (S "law") [.list (intVals ns)] = some (.bool true) := by
  obtain ⟨w, hwv, hw1, hw⟩ : ∃ w : Nat, (ns.length : Int).fmod 3 + 1 = (w : Int) ∧ 1 ≤ w ∧ w ≤ 3 := by
    have h1 := Int.fmod_nonneg_of_pos (ns.length : Int) (show (0 : Int) < 3 by decide)
    have h2 := Int.fmod_lt_of_pos (ns.length : Int) (show (0 : Int) < 3 by decide)
    exact ⟨((ns.length : Int).fmod 3 + 1).toNat, by omega, by omega, by omega⟩
  have hnl : ns.length ≤ lim := Nat.le_trans hn (by decide)
  have hnl2 : (intVals ns).length ≤ lim := by rw [ints_len]; exact hnl
  have h256 : smallI 256 = true := by decide +kernel
  have h2s : smallI 2 = true := by decide +kernel
  have h20 : (2 : Int) ≠ 0 := by decide
  have hw1000 : w ≤ 1000 := by omega
  have g1 : lookE [(S "script", Ent.val (.list (intVals ns)))] (S "script") = some (.val (.list (intVals ns))) := lk_cons
  suffices ∃ fm, (interp fns (k + 43)).ex ⟨N7, [(S "script", Ent.val (.list (intVals ns)))]⟩ (bodyAt q0 7) = some (fm, .ret (.bool true)) by
    obtain ⟨fm, h⟩ := this
    exact f_call (n := k + 43) hf rfl h
  generalize hvs : [(S "script", Ent.val (.list (intVals ns)))] = vs at *
  clear hvs
  have hlenN : bcall (S "len") [.list (intVals ns)] = some (.int (ns.length : Int)) := by
    rw [← ints_len (a := ns)]; exact c_len hnl2
  have e0 : SS fns (k + 42) ⟨N7, vs⟩ (nth (bodyAt q0 7) 0) = some (⟨N7, setE vs (S "width") (.val (.int w))⟩, .next) := by
    rw [← hwv]
    refine s_asg (by decide +kernel) (by decide +kernel) (e_bin (a := .int ((ns.length : Int).fmod 3)) (b := .int 1) (e_bin (a := .int (ns.length : Int)) (b := .int 3) (e_callb (as := [.list (intVals ns)]) (by decide +kernel) (by decide +kernel) (nb_len hb) (a_of (by decide +kernel) (m_cons ?_ m_nil)) hlenN) e_int (b_mod (by decide))) e_int b_add)
    walk_at "ev"
  generalize hv1 : setE vs (S "width") (.val (.int w)) = vs1 at e0
  have a1 : lookE vs1 (S "width") = some (.val (.int w)) := by subst hv1; walk_at "ev"
  have a2 : lookE vs1 (S "script") = some (.val (.list (intVals ns))) := by subst hv1; walk_at "ev"
  clear hv1 g1
  obtain ⟨hh, hhe⟩ : ∃ hh, hh = ((256 : Int) ^ w).fdiv 2 := ⟨_, rfl⟩
  have hhp : 0 < hh := by
    rw [hhe]
    have : w = 1 ∨ w = 2 ∨ w = 3 := by omega
    rcases this with e | e | e <;> subst e <;> decide +kernel
  have e1 : SS fns (k + 42) ⟨N7, vs1⟩ (nth (bodyAt q0 7) 1) = some (⟨N7, setE vs1 (S "half") (.val (.int hh))⟩, .next) := by
    rw [hhe]
    refine s_asg (by decide +kernel) (by decide +kernel) (e_bin (a := .int (256 ^ w)) (b := .int 2) (e_bin (a := .int 256) (b := .int w) e_int ?_ (b_powN hw1000 h256)) e_int (b_fdiv h20 h2s))
    walk_at "ev"
  generalize hv2 : setE vs1 (S "half") (.val (.int hh)) = vs2 at e1
  have b1 : lookE vs2 (S "width") = some (.val (.int w)) := by subst hv2; walk_at "ev"
  have b2 : lookE vs2 (S "script") = some (.val (.list (intVals ns))) := by subst hv2; walk_at "ev"
  have b3 : lookE vs2 (S "half") = some (.val (.int hh)) := by subst hv2; walk_at "ev"
  clear hv2 a1 a2
  obtain ⟨y7, hy7⟩ : ∃ y7, y7 = (ns ++ z7).take 7 := ⟨_, rfl⟩
  have hyl : y7.length = 7 := by rw [hy7, List.length_take, List.length_append]; simp [z7]
  obtain ⟨nums, hnums⟩ : ∃ nums, nums = (y7.zip c7).map fun p : Int × Int => p.1 + p.2 := ⟨_, rfl⟩
  have hzl : (y7.zip c7).length = 7 := by rw [List.length_zip, hyl]; rfl
  have hnuml : nums.length = 7 := by rw [hnums, List.length_map, hzl]
  have e2 : SS fns (k + 42) ⟨N7, vs2⟩ (nth (bodyAt q0 7) 2) = some (⟨N7, setE vs2 (S "numbers") (.val (.list (intVals nums)))⟩, .next) := by
    have hm : intVals nums = (y7.zip c7).map fun p : Int × Int => PV.int (p.1 + p.2) := by rw [hnums]; unfold intVals; rw [List.map_map]; rfl
    have hs7 : slicing (.list (intVals (ns ++ z7))) none (some 7) = some (.list (intVals y7)) := by
      rw [hy7]
      exact sl_ints (l := ns ++ z7) (m := 7) (by rw [List.length_append]; exact Nat.le_trans (Nat.add_le_add_right hn 7) (by decide))
    have hrep : binop .Mult (.list [.int 0]) (.int 7) = some (.list (intVals z7)) := by
      rw [b_mull (by decide) (by decide) (by decide)]; rfl
    have hadd : binop .Add (.list (intVals ns)) (.list (intVals z7)) = some (.list (intVals (ns ++ z7))) := by
      rw [ints_app]
      exact b_addl (by rw [ints_len, ints_len]; exact Nat.le_trans (Nat.add_le_add_right hn 7) (by decide))
    rw [hm]
    refine s_comp (by decide +kernel) (by decide +kernel) (compP (L := y7.zip c7) (u := fun p => .int p.1) (u2 := fun p => .int p.2) (by decide +kernel) (by decide +kernel) ((p_zip (xs := intVals y7) (ys := intVals c7) (by decide +kernel) (e_slice (o := .list (intVals (ns ++ z7))) (e_bin (a := .list (intVals ns)) (b := .list (intVals z7)) ?_ (e_bin (a := .list [.int 0]) (b := .int 7) ?_ e_int hrep) hadd) o_none (o_some e_int) hs7) ?_ ?_ ?_).trans (by rw [zips_zip])) ?_ fun p _ => ?_)
    · walk_at "ev"
    · exact e_list (a_of (by decide +kernel) (m_cons e_int m_nil)) (by decide)
    · exact e_list (a_of (by decide +kernel) (m_cons e_int (m_cons (e_neg e_int) (m_cons e_int (m_cons (e_neg e_int) (m_cons (e_neg e_int) (m_cons e_int (m_cons (e_neg e_int) m_nil)))))))) (by decide)
    · rw [ints_len, hyl]; decide
    · decide
    · rw [hzl]; decide
    · walk_at "ev"
  generalize hv3 : setE vs2 (S "numbers") (.val (.list (intVals nums))) = vs3 at e2
  have d1 : lookE vs3 (S "width") = some (.val (.int w)) := by subst hv3; walk_at "ev"
  have d3 : lookE vs3 (S "half") = some (.val (.int hh)) := by subst hv3; walk_at "ev"
  have d4 : lookE vs3 (S "numbers") = some (.val (.list (intVals nums))) := by subst hv3; walk_at "ev"
  clear hv3 b1 b2 b3
  obtain ⟨track, htr⟩ : ∃ track, track = nums.map fun x => (x + hh).fmod (2 * hh) - hh := ⟨_, rfl⟩
  have htl : track.length = 7 := by rw [htr, List.length_map, hnuml]
  have hr : ∀ s ∈ track, -((256 : Int) ^ w).fdiv 2 ≤ s ∧ s < ((256 : Int) ^ w).fdiv 2 := fun s h => by
    rw [htr] at h
    obtain ⟨x, _, rfl⟩ := List.mem_map.mp h
    rw [← hhe]
    have h1 := Int.fmod_nonneg_of_pos (x + hh) (show (0 : Int) < 2 * hh by omega)
    have h2 := Int.fmod_lt_of_pos (x + hh) (show (0 : Int) < 2 * hh by omega)
    omega
  have e3 : SS fns (k + 42) ⟨N7, vs3⟩ (nth (bodyAt q0 7) 3) = some (⟨N7, setE vs3 (S "track") (.val (.list (intVals track)))⟩, .next) := by
    have hm : intVals track = nums.map fun x => PV.int ((x + hh).fmod (2 * hh) - hh) := by rw [htr]; unfold intVals; rw [List.map_map]; rfl
    rw [hm]
    have hnl7 : (intVals nums).length ≤ lim := by rw [ints_len, hnuml]; decide
    have hne : (2 : Int) * hh ≠ 0 := by omega
    refine s_compn d4 (by decide +kernel) (comp1 (L := nums) (u := PV.int) (by decide +kernel) (by decide +kernel) (p_gen (v := .list (intVals nums)) (by decide +kernel) ?_ (it_list hnl7) rfl) (by rw [hnuml]; decide) fun x _ => ?_)
    · walk_at "ev"
    · refine e_bin (a := .int ((x + hh).fmod (2 * hh))) (b := .int hh) (e_bin (a := .int (x + hh)) (b := .int (2 * hh)) ?_ (e_bin (a := .int 2) (b := .int hh) e_int ?_ (b_mulR h2s)) (b_mod hne)) ?_ b_sub
      all_goals walk_at "ev"
  generalize hv4 : setE vs3 (S "track") (.val (.list (intVals track))) = vs4 at e3
  have f1 : lookE vs4 (S "width") = some (.val (.int w)) := by subst hv4; walk_at "ev"
  have f2 : lookE vs4 (S "track") = some (.val (.list (intVals track))) := by subst hv4; walk_at "ev"
  clear hv4 d1 d3 d4
  obtain ⟨vs', e4, _⟩ := loop_nat (ex := (interp fns (k + 42)).ex) (x := S "size") (xp := nmPos (forTgt lp0)) (body := inner lp0) (N := N7) (m := track.length + 1) (fun _ vs => T4 w track vs) (by decide +kernel) vs4
    (fun i vs hi ⟨h1, h2⟩ => by
      obtain ⟨vs', e, h, _⟩ := loop_inv (ex := (interp fns (k + 41)).ex) (x := S "least") (xp := nmPos (forTgt lp1)) (body := inner lp1) (N := N7) PV.int
        (fun _ vs => T4 w track vs ∧ lookE vs (S "size") = some (.val (.int (i : Int)))) (by decide +kernel) [1, 0] [] (setE vs (S "size") (.val (.int (i : Int))))
        (fun pre least post vs e ⟨hT, hs⟩ => by
          have hle : least = 0 ∨ least = 1 := by
            have : least ∈ [(1 : Int), 0] := by rw [← e]; simp
            simp only [List.mem_cons, List.not_mem_nil, or_false] at this
            exact this.symm
          exact least_turn hb F hw1 hw hle (by omega) (by omega) hr hT hs) ⟨⟨by walk_at "ev", by walk_at "ev"⟩, lk_hit⟩
      refine ⟨vs', x_one (s_for (p_gen (v := .tup ([1, 0].map PV.int)) (by decide +kernel) (e_tup (a_of (by decide +kernel) (m_cons e_int (m_cons e_int m_nil))) (by decide)) (it_tup (by decide)) rfl) e), h⟩) ⟨f1, f2⟩
  have hlenT : bcall (S "len") [.list (intVals track)] = some (.int (track.length : Int)) := by
    rw [← ints_len (a := track)]; exact c_len (by rw [ints_len, htl]; decide)
  have e4' : SS fns (k + 42) ⟨N7, vs4⟩ (nth (bodyAt q0 7) 4) = some (⟨N7, vs'⟩, .next) := by
    refine s_for (p_gen (v := .rng 0 ((track.length + 1 : Nat) : Int) 1) (by decide +kernel) ?_ (it_nat (by omega)) rfl) e4
    rw [show ((track.length + 1 : Nat) : Int) = (track.length : Int) + 1 from by omega]
    refine e_callb (as := [.int ((track.length : Int) + 1)]) (by decide +kernel) (by decide +kernel) (nb_range hb) (a_of (by decide +kernel) (m_cons (e_bin (a := .int (track.length : Int)) (b := .int 1) (e_callb (as := [.list (intVals track)]) (by decide +kernel) (by decide +kernel) (nb_len hb) (a_of (by decide +kernel) (m_cons ?_ m_nil)) hlenT) e_int b_add) m_nil)) c_rng1
    walk_at "ev"
  exact ⟨_, x_seq e0 (x_seq e1 (x_seq e2 (x_seq e3 (x_seq e4' (x_ret (s_ret e_bool))))))⟩
end Mine
end
section
open PySem PySem.W PyProof.Rows
set_option Elab.async false
set_option maxRecDepth 100000
set_option maxHeartbeats 8000000
namespace Mine
open_top hd for PySem.Challenge.rw_pg0336_04
noncomputable abbrev fnX := fnsOf hd.view_39
theorem okv : okGlob hd.view_39 [] = true := by decide +kernel
theorem fnX_law : fnX (S "law") = some DefLaw4 := by kernel_rfl
theorem fnX_all : F4 fnX := ⟨by kernel_rfl, by kernel_rfl, by kernel_rfl, by kernel_rfl, by kernel_rfl⟩
theorem run_true (ns : List Int) (h : ns.length ≤ 63) : (interp fnX 50).cl (S "law") [.list (intVals ns)] = some (.bool true) := law4_ok (k := 6) (noB_of okv) fnX_all fnX_law h
theorem holds_X : PySem.Challenge.rw_pg0336_04.Holds := hd (by
  intro w s₀ s₁ mg mb G Y fa o pm cd doc dV kV ho hd hcd hD hmg hg args vals as hpre hlay hrd hwl hlo
  clear ho hd hcd hD
  wrow_args hpre hlay hrd hwl hlo
  rename_i ns _ _ _ _ _ _ _ a vs _ hL _ _ _ hI _ hlen _
  have hn : ns.length ≤ 63 := by omega
  refine G_mono (law_call (s := s₁) (g := fun b => s₁.heap.get? b) (vs := [.list (intVals ns)]) G okv rfl (by decide : 50 ≤ 600) (run_true ns hn) (fun b o e => e) (Reps.one ?_) hmg) fun v s' h => ?_
  · simp only [Rep]
    obtain ⟨ol, e1, e2, n, e3⟩ := hL
    exact ⟨a, vs, rfl, ⟨ol, e1, e2, n, e3⟩, ints_reps hI⟩
  · obtain ⟨g', Gr, rv⟩ := h
    obtain rfl := rep_bool rv
    exact GoodW.toG ⟨.inl ⟨.bool true, .bool true, [], rfl, fun _ => rfl, (.bool _), post_true _ _ _, fun _ => ⟨List.nodup_nil, by simp⟩⟩, Gr.ext, Gr.same.2.2, Gr.same.1.trans hg⟩)
end Mine
end
theorem PySem.Challenge.cw_pg0336_04_holds : PySem.Challenge.rw_pg0336_04.Holds := by
  exact Mine.holds_X
