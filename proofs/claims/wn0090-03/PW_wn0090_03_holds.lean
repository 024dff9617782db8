import PyProof.Rows.All
import Wide.All
import OpenK.AllK
import Wide.FinOn
import PySem.Challenge.RW_wn0090_03
set_option Elab.async false
section
open PySem PySem.W PyProof.Rows
set_option Elab.async false
namespace Mine
inductive D where
  | none
  | bool (b : Bool)
  | int (i : Int)
  | str (x : List Nat)
  | list (l : List D)
  | tup (l : List D)
noncomputable def tupObj (vs : List Value) (n : Nat) : Obj := { cls := .type "tuple", data := .seq vs.toArray n }
noncomputable def PlainTup (h : Heap) (a : Addr) (vs : List Value) : Prop := ∃ n, h.get? a = some (tupObj vs n)
mutual
noncomputable def Rep (h : Heap) (X : Addr → Prop) : D → Value → Prop
  | .none, v => v = .none
  | .bool b, v => v = .bool b
  | .int i, v => ∃ t, v = .int i t
  | .str x, v => ∃ t, v = .str ⟨x.toArray⟩ t
  | .list l, v => ∃ a vs, v = .ref a ∧ ¬ X a ∧ h.PlainList a vs.toArray ∧ Reps h X l vs
  | .tup l, v => ∃ a vs, v = .ref a ∧ ¬ X a ∧ PlainTup h a vs ∧ Reps h X l vs
noncomputable def Reps (h : Heap) (X : Addr → Prop) : List D → List Value → Prop
  | [], vs => vs = []
  | d :: ds, vs => ∃ v r, vs = v :: r ∧ Rep h X d v ∧ Reps h X ds r
end
theorem Heap.PlainList.get {h : Heap} {a : Addr} {it : Array Value} (x : h.PlainList a it) : (h.get? a).isSome := by
  obtain ⟨n, e⟩ := x; rw [e]; rfl
structure Move (h h' : Heap) (X Y : Addr → Prop) : Prop where
  kept : ∀ b o, ¬ X b → h.get? b = some o → h'.get? b = some o
  free : ∀ b, (h.get? b).isSome → Y b → X b
mutual
theorem Rep.move {h h' : Heap} {X Y : Addr → Prop} (M : Move h h' X Y) : ∀ {d : D} {v : Value}, Rep h X d v → Rep h' Y d v
  | .none, _, r => by unfold Rep at r ⊢; exact r
  | .bool _, _, r => by unfold Rep at r ⊢; exact r
  | .int _, _, r => by unfold Rep at r ⊢; exact r
  | .str _, _, r => by unfold Rep at r ⊢; exact r
  | .list l, _, r => by
    unfold Rep at r ⊢
    obtain ⟨a, vs, e, hx, ⟨n, hp⟩, hr⟩ := r
    exact ⟨a, vs, e, fun y => hx (M.free a (by rw [hp]; rfl) y), ⟨n, M.kept a _ hx hp⟩, Reps.move M hr⟩
  | .tup l, _, r => by
    unfold Rep at r ⊢
    obtain ⟨a, vs, e, hx, ⟨n, hp⟩, hr⟩ := r
    exact ⟨a, vs, e, fun y => hx (M.free a (by rw [hp]; rfl) y), ⟨n, M.kept a _ hx hp⟩, Reps.move M hr⟩
theorem Reps.move {h h' : Heap} {X Y : Addr → Prop} (M : Move h h' X Y) : ∀ {l : List D} {vs : List Value}, Reps h X l vs → Reps h' Y l vs
  | [], _, r => by unfold Reps at r ⊢; exact r
  | d :: ds, _, r => by
    unfold Reps at r ⊢
    obtain ⟨v, t, e, h1, h2⟩ := r
    exact ⟨v, t, e, Rep.move M h1, Reps.move M h2⟩
end
noncomputable abbrev Grown (h h' : Heap) : Prop := ∀ b o, h.get? b = some o → h'.get? b = some o
theorem Move.grown {h h' : Heap} {X : Addr → Prop} (g : Grown h h') : Move h h' X X := ⟨fun b o _ e => g b o e, fun _ _ y => y⟩
theorem Rep.grow {h h' : Heap} {X : Addr → Prop} {d : D} {v : Value} (r : Rep h X d v) (g : Grown h h') : Rep h' X d v := r.move (.grown g)
theorem Reps.grow {h h' : Heap} {X : Addr → Prop} {d : List D} {v : List Value} (r : Reps h X d v) (g : Grown h h') : Reps h' X d v := r.move (.grown g)
theorem Rep.weaken {h : Heap} {X Y : Addr → Prop} {d : D} {v : Value} (r : Rep h X d v) (s : ∀ a, Y a → X a) : Rep h Y d v := r.move ⟨fun _ _ _ e => e, fun b _ y => s b y⟩
theorem Reps.weaken {h : Heap} {X Y : Addr → Prop} {d : List D} {v : List Value} (r : Reps h X d v) (s : ∀ a, Y a → X a) : Reps h Y d v := r.move ⟨fun _ _ _ e => e, fun b _ y => s b y⟩
theorem Reps.length {h : Heap} {X : Addr → Prop} : ∀ {l : List D} {vs : List Value}, Reps h X l vs → vs.length = l.length
  | [], _, r => by unfold Reps at r; subst r; rfl
  | d :: ds, _, r => by
    unfold Reps at r
    obtain ⟨v, t, rfl, _, h2⟩ := r
    rw [List.length_cons, List.length_cons, Reps.length h2]
theorem Reps.nil {h : Heap} {X : Addr → Prop} : Reps h X [] [] := by unfold Reps; rfl
theorem Reps.cons {h : Heap} {X : Addr → Prop} {d : D} {v : Value} {ds : List D} {vs : List Value} (a : Rep h X d v) (b : Reps h X ds vs) : Reps h X (d :: ds) (v :: vs) := by
  unfold Reps; exact ⟨v, vs, rfl, a, b⟩
theorem Reps.append {h : Heap} {X : Addr → Prop} : ∀ {l m : List D} {vs ws : List Value}, Reps h X l vs → Reps h X m ws → Reps h X (l ++ m) (vs ++ ws)
  | [], m, vs, ws, a, b => by unfold Reps at a; subst a; exact b
  | d :: ds, m, vs, ws, a, b => by
    unfold Reps at a
    obtain ⟨v, t, rfl, h1, h2⟩ := a
    exact Reps.cons h1 (Reps.append h2 b)
theorem Reps.get {h : Heap} {X : Addr → Prop} : ∀ {l : List D} {vs : List Value} {i : Nat} {d : D}, Reps h X l vs → l[i]? = some d → ∃ v, vs[i]? = some v ∧ Rep h X d v
  | [], _, i, d, _, e => by simp at e
  | c :: ds, _, 0, d, r, e => by
    unfold Reps at r
    obtain ⟨v, t, rfl, h1, _⟩ := r
    simp at e; subst e
    exact ⟨v, rfl, h1⟩
  | c :: ds, _, i + 1, d, r, e => by
    unfold Reps at r
    obtain ⟨v, t, rfl, _, h2⟩ := r
    simp at e
    obtain ⟨u, hu, hr⟩ := Reps.get h2 e
    exact ⟨u, by simpa using hu, hr⟩
theorem Reps.take {h : Heap} {X : Addr → Prop} : ∀ {l : List D} {vs : List Value} (n : Nat), Reps h X l vs → Reps h X (l.take n) (vs.take n)
  | _, _, 0, _ => by simpa using Reps.nil
  | [], _, n + 1, r => by unfold Reps at r; subst r; simpa using Reps.nil
  | d :: ds, _, n + 1, r => by
    unfold Reps at r
    obtain ⟨v, t, rfl, h1, h2⟩ := r
    exact Reps.cons h1 (Reps.take n h2)
theorem Reps.drop {h : Heap} {X : Addr → Prop} : ∀ {l : List D} {vs : List Value} (n : Nat), Reps h X l vs → Reps h X (l.drop n) (vs.drop n)
  | _, _, 0, r => r
  | [], _, n + 1, r => by unfold Reps at r; subst r; simpa using Reps.nil
  | d :: ds, _, n + 1, r => by
    unfold Reps at r
    obtain ⟨v, t, rfl, h1, h2⟩ := r
    exact Reps.drop n h2
structure Grow (s s' : Shared) : Prop where
  heap : Grown s.heap s'.heap
  gens : s'.gens = s.gens
  drawn : s'.drawn = s.drawn
  os : s'.os = s.os
theorem Grow.refl (s : Shared) : Grow s s := ⟨fun _ _ e => e, rfl, rfl, rfl⟩
theorem Grow.trans {a b c : Shared} (x : Grow a b) (y : Grow b c) : Grow a c :=
  ⟨fun p o e => y.heap p o (x.heap p o e), y.gens.trans x.gens, y.drawn.trans x.drawn, y.os.trans x.os⟩
theorem Grow.of {s : Shared} {h : Heap} {k : Nat} (g : Grown s.heap h) : Grow s { s with heap := h, toks := k } := ⟨g, rfl, rfl, rfl⟩
theorem Grow.tok {s : Shared} {k : Nat} : Grow s { s with toks := k } := ⟨fun _ _ e => e, rfl, rfl, rfl⟩
theorem Grow.push {s : Shared} (o : Obj) : Grow s { s with heap := s.heap.push o } := ⟨fun _ _ e => Heap.get?_push_of_some o e, rfl, rfl, rfl⟩
theorem Grow.pushTok {s : Shared} (o : Obj) {k : Nat} : Grow s { s with heap := s.heap.push o, toks := k } := ⟨fun _ _ e => Heap.get?_push_of_some o e, rfl, rfl, rfl⟩
theorem get_size_none (h : Heap) : h.get? h.objs.size = none := by
  cases e : h.get? h.objs.size with
  | none => rfl
  | some o => exact absurd (Heap.lt_size e) (Nat.lt_irrefl _)
noncomputable def There (X : Addr → Prop) (h : Heap) : Prop := ∀ a, X a → (h.get? a).isSome
theorem There.grow {X : Addr → Prop} {h h' : Heap} (t : There X h) (g : Grown h h') : There X h' := fun a x => by
  obtain ⟨o, e⟩ := Option.isSome_iff_exists.mp (t a x)
  rw [g a o e]; rfl
theorem There.not_new {X : Addr → Prop} {h : Heap} (t : There X h) : ¬ X h.objs.size := fun x => by
  have := t _ x
  rw [get_size_none] at this
  cases this
theorem Rep.newList {h : Heap} {X : Addr → Prop} {ds : List D} {vs : List Value} (t : There X h) (r : Reps h X ds vs) :
    Rep (h.push { cls := .type "list", data := .seq vs.toArray }) X (.list ds) (.ref h.objs.size) := by
  unfold Rep
  exact ⟨_, vs, rfl, t.not_new, ⟨0, Heap.get?_push_size _ rfl⟩, r.grow fun b o e => Heap.get?_push_of_some _ e⟩
theorem Rep.newTup {h : Heap} {X : Addr → Prop} {ds : List D} {vs : List Value} (t : There X h) (r : Reps h X ds vs) :
    Rep (h.push { cls := .type "tuple", data := .seq vs.toArray }) X (.tup ds) (.ref h.objs.size) := by
  unfold Rep
  exact ⟨_, vs, rfl, t.not_new, ⟨0, Heap.get?_push_size _ rfl⟩, r.grow fun b o e => Heap.get?_push_of_some _ e⟩
end Mine
end
section
open PySem PySem.W PyProof.Rows
set_option Elab.async false
namespace Mine
inductive Fu where
  | z
  | s (n : Fu)
noncomputable abbrev PEnv := List (Str × Bool × D)
noncomputable def PEnv.set : PEnv → Str → Bool × D → PEnv
  | [], x, v => [(x, v)]
  | (y, u) :: r, x, v => if y == x then (x, v) :: r else (y, u) :: PEnv.set r x v
/- looks at an expression, one level at a time -/
noncomputable def strOfE : Expr → Option Str
  | .Constant c _ _ => (match c with | .str x => some x | _ => none)
  | _ => none
theorem strOfE_is {e : Expr} {x : Str} (h : strOfE e = some x) : ∃ k p, e = .Constant (.str x) k p := by
  cases e with
  | Constant c k p =>
    cases c with
    | str j => cases h; exact ⟨k, p, rfl⟩
    | _ => exact nomatch h
  | _ => exact nomatch h
noncomputable def nameOfE : Expr → Option Str
  | .Name x _ => some x
  | _ => none
theorem nameOfE_is {e : Expr} {x : Str} (h : nameOfE e = some x) : ∃ p, e = .Name x p := by
  cases e with
  | Name y p => cases h; exact ⟨p, rfl⟩
  | _ => exact nomatch h
noncomputable def listOfE : Expr → Option (List Expr)
  | .List es _ => some es
  | _ => none
theorem listOfE_is {e : Expr} {es : List Expr} (h : listOfE e = some es) : ∃ p, e = .List es p := by
  cases e with
  | List y p => cases h; exact ⟨p, rfl⟩
  | _ => exact nomatch h
noncomputable def oneOf {α : Type} : List α → Option α
  | [] => none
  | a :: r => (match r with | [] => some a | _ :: _ => none)
theorem oneOf_is {α : Type} {l : List α} {a : α} (h : oneOf l = some a) : l = [a] := by
  cases l with
  | nil => exact nomatch h
  | cons b r => cases r with
    | nil => cases h; rfl
    | cons c s => exact nomatch h
noncomputable def twoOf {α : Type} : List α → Option (α × α)
  | [] => none
  | a :: r => (oneOf r).map fun b => (a, b)
structure AC where
  o : Expr
  m : Str
  apos : Pos
  args : List Expr
  pos : Pos
noncomputable def attrCall : Expr → Option AC
  | .Call f args ks pos => (match f with
    | .Attribute o m apos => (match ks with | [] => some ⟨o, m, apos, args, pos⟩ | _ :: _ => none)
    | _ => none)
  | _ => none
theorem attrCall_is {e : Expr} {c : AC} (h : attrCall e = some c) : e = .Call (.Attribute c.o c.m c.apos) c.args [] c.pos := by
  cases e with
  | Call f args ks pos =>
    cases f with
    | Attribute o m apos =>
      cases ks with
      | nil => cases h; rfl
      | cons _ _ => exact nomatch h
    | _ => exact nomatch h
  | _ => exact nomatch h
structure Repl where
  b : Str
  m : Str
  apos : Pos
  y : Str
  z : Str
  pos : Pos
noncomputable def replHead (elt : Expr) : Option Repl := (attrCall elt).bind fun c => (nameOfE c.o).bind fun b => (twoOf c.args).bind fun a => (strOfE a.1).bind fun y => (nameOfE a.2).map fun z => ⟨b, c.m, c.apos, y, z, c.pos⟩
noncomputable def replClause (gens : List Comprehension) : Option (Str × Str) := (oneOf gens).bind fun g => (match g.ifs with | [] => if g.is_async = 0 then (nameOfE g.target).bind fun t => (strOfE g.iter).map fun l => (t, l) else none | _ :: _ => none)
noncomputable def twoS (args : List Expr) : Option (Str × Str) := (twoOf args).bind fun a => (strOfE a.1).bind fun y => (strOfE a.2).map fun z => (y, z)
structure SL where
  lo : Option Expr
  hi : Option Expr
  st : Option Expr
  p : Pos
noncomputable def sliceOf : Expr → Option SL
  | .Slice lo hi st p => some ⟨lo, hi, st, p⟩
  | _ => none
theorem sliceOf_is {e : Expr} {s : SL} (h : sliceOf e = some s) : e = .Slice s.lo s.hi s.st s.p := by
  cases e with
  | Slice a b c d => cases h; rfl
  | _ => exact nomatch h
noncomputable def ints2 : D → D → Option (Int × Int)
  | .int i, b => (match b with | .int j => some (i, j) | _ => none)
  | _, _ => none
theorem ints2_is {a b : D} {p : Int × Int} (h : ints2 a b = some p) : a = .int p.1 ∧ b = .int p.2 := by
  cases a with
  | int i =>
    cases b with
    | int j => cases h; exact ⟨rfl, rfl⟩
    | _ => exact nomatch h
  | _ => exact nomatch h
noncomputable def oneCh : D → Option Nat
  | .str x => oneOf x
  | _ => none
theorem oneCh_is {a : D} {c : Nat} (h : oneCh a = some c) : a = .str [c] := by
  cases a with
  | str x => rw [oneOf_is (show oneOf x = some c from h)]
  | _ => exact nomatch h
noncomputable def mkS (x : List Nat) : Option D := if x.length ≤ 1000000 then some (.str x) else none
noncomputable def mkL (x : List D) : Option D := if x.length ≤ 1000000 then some (.list x) else none
noncomputable def big (i : Int) : Bool := decide (i.natAbs < 2 ^ 62)
noncomputable def pbin (op : Operator) (a b : D) : Option D := match op with
  | .Add => (match a with
    | .int a => (match b with | .int b => some (.int (a + b)) | _ => none)
    | .str x => (match b with | .str y => mkS (x ++ y) | _ => none)
    | .list x => (match b with | .list y => mkL (x ++ y) | _ => none)
    | _ => none)
  | .Sub => (ints2 a b).map fun p => .int (p.1 - p.2)
  | .Mult => (match a with
    | .int a => (match b with | .int b => if (big a && big b) = true then some (.int (a * b)) else none | _ => none)
    | .str x => (match b with | .int k => if (decide (0 ≤ k) && decide (k ≤ 64)) = true then mkS (List.replicate k.toNat x).flatten else none | _ => none)
    | _ => none)
  | .FloorDiv => (ints2 a b).bind fun p => if (p.2 != 0 && decide (p.2.natAbs < 1073741824)) = true then some (.int (p.1.fdiv p.2)) else none
  | .Mod => (ints2 a b).bind fun p => if (p.2 != 0) = true then some (.int (p.1.fmod p.2)) else none
  | .Pow => (ints2 a b).bind fun p => if (decide (0 ≤ p.2) && decide (p.2 ≤ 64) && decide (p.1.natAbs ≤ 64)) = true then some (.int (p.1 ^ p.2.toNat)) else none
  | .BitAnd => (ints2 a b).map fun p => .int (Builtin.bitAnd p.1 p.2)
  | _ => none
noncomputable def deqs (f : D → D → Option Bool) : List D → List D → Option Bool
  | [], [] => some true
  | a :: as, b :: bs => (f a b).bind fun x => (deqs f as bs).map fun y => x && y
  | _, _ => some false
noncomputable def deqN : Fu → D → D → Option Bool
  | _, .int a, .int b => some (a == b)
  | _, .str a, .str b => some (a == b)
  | .s n, .list a, .list b => if a.length = b.length then deqs (deqN n) a b else some false
  | .s n, .tup a, .tup b => if a.length = b.length then deqs (deqN n) a b else none
  | _, _, _ => none
noncomputable abbrev deq : D → D → Option Bool := deqN (.s (.s (.s (.s .z))))
noncomputable def din (a : D) : List D → Option Bool
  | [] => some false
  | b :: r => (deq b a).bind fun x => (din a r).map fun y => x || y
noncomputable def pcmp (op : CmpOp) (a b : D) : Option Bool := match op with
  | .Eq => deq a b
  | .NotEq => (deq a b).map not
  | .Lt => (ints2 a b).map fun p => decide (p.1 < p.2)
  | .LtE => (ints2 a b).map fun p => decide (p.1 ≤ p.2)
  | .Gt => (ints2 a b).map fun p => decide (p.1 > p.2)
  | .GtE => (ints2 a b).map fun p => decide (p.1 ≥ p.2)
  | .In => (match b with
    | .str y => (oneCh a).map fun c => y.contains c
    | .list l => din a l
    | .tup l => din a l
    | _ => none)
  | .NotIn => (match b with
    | .str y => (oneCh a).map fun c => !y.contains c
    | .list l => (din a l).map not
    | _ => none)
  | _ => none
noncomputable def pat {α : Type} (l : List α) (i : Int) : Option α :=
  if (decide (-(2 ^ 62) ≤ i) && decide (i < 2 ^ 62)) = true then (seqIndex? i l.length).bind (l[·]?) else none
noncomputable def pidx (o i : D) : Option D := match o, i with
  | .str x, .int i => (pat x i).map fun c => .str [c]
  | .list l, .int i => pat l i
  | .tup l, .int i => pat l i
  | _, _ => none
noncomputable def pcut {α : Type} (l : List α) (lo hi : Option Int) : List α :=
  (l.drop (lo.elim 0 (clipAt l.length))).take (hi.elim l.length (clipAt l.length) - lo.elim 0 (clipAt l.length))
noncomputable def small? (i : Int) : Bool := decide (-(2 ^ 62) ≤ i) && decide (i < 2 ^ 62)
noncomputable def pslice (o : D) (lo hi : Option Int) : Option D :=
  if (lo.all small? && hi.all small?) = true then (match o with
  | .str x => if x.length ≤ 1000000 then some (.str (pcut x lo hi)) else none
  | .list l => if l.length ≤ 1000000 then some (.list (pcut l lo hi)) else none
  | _ => none) else none
noncomputable def ints? : List D → Option (List Int)
  | [] => some []
  | .int i :: r => (ints? r).map (i :: ·)
  | _ :: _ => none
noncomputable def strs? : List D → Option (List (List Nat))
  | [] => some []
  | .str x :: r => (strs? r).map (x :: ·)
  | _ :: _ => none
noncomputable def toStr (x : List Nat) : Str := ⟨x.toArray⟩
noncomputable def pbuiltin (f : Str) (ds : List D) : Option D :=
  if f == "len" then (match ds with
    | [.str x] => if x.length ≤ 1000000 then some (.int x.length) else none
    | [.list l] => if l.length ≤ 1000000 then some (.int l.length) else none
    | _ => none)
  else if f == "ord" then (match ds with
    | [.str [c]] => some (.int c)
    | _ => none)
  else if f == "chr" then (match ds with
    | [.int i] => if (decide (0 ≤ i) && decide (i ≤ 0x10FFFF)) = true then some (.str [i.toNat]) else none
    | _ => none)
  else if f == "sum" then (match ds with
    | [.list l] => if l.length ≤ 1000000 then (ints? l).map fun ns => .int ns.sum else none
    | _ => none)
  else if f == "sorted" then (match ds with
    | [.list l] => if l.length ≤ 60 then (ints? l).bind fun ns => if (ns.all fun i => decide (i.natAbs < 1000000)) = true then some (.list ((ns.mergeSort (· ≤ ·)).map .int)) else none else none
    | _ => none)
  else none
noncomputable def pmeth (m : Str) (o : D) (ds : List D) : Option D := match o, ds with
  | .str x, [.list l] => if m == "join" then (match strs? l with
      | some xs => if (x.isEmpty && decide (xs.flatten.length + xs.length ≤ 1000000)) = true then some (.str xs.flatten) else none
      | none => none) else none
  | .str x, [.str y] =>
    if m == "index" then (match Builtin.Str.occurrences (toStr x) (toStr y) 0 (toStr x).length 1 with
      | i :: _ => some (.int i)
      | [] => none)
    else if m == "split" then (if (decide (x.length ≤ 10000) && !y.isEmpty) = true then some (.list ((Txt.split (toStr x) (toStr y)).map fun s => .str s.cps.toList)) else none)
    else none
  | .list l, [.str y] => if m == "count" then (if l.length ≤ 1000000 then (strs? l).map fun xs => .int (xs.count y) else none) else none
  | .list l, [.int i] => if m == "index" then (if l.length ≤ 60 then (ints? l).bind fun ns => if (ns.contains i && ns.all fun i => decide (i.natAbs < 1000000)) = true then some (.int (ns.idxOf i)) else none else none) else none
  | _, _ => none
section
variable (G : List (Str × (List D → Option D))) (sc : List (Str × NameKind))
noncomputable abbrev Ev := Expr → PEnv → Option (Bool × D)
noncomputable def pconst : Const → Option D
  | .none => some .none
  | .bool b => some (.bool b)
  | .int i => some (.int i)
  | .str s => some (.str s.cps.toList)
  | _ => none
noncomputable def pclean (ev : Ev) : List Expr → PEnv → Option (List D)
  | [], _ => some []
  | e :: r, ρ => match e with
    | .Starred .. => none
    | e => match ev e ρ with
      | some (true, d) => (pclean ev r ρ).map (d :: ·)
      | _ => none
noncomputable def pvals (ev : Ev) : List Expr → PEnv → Option (List D)
  | [], _ => some []
  | e :: r, ρ => match e with
    | .Starred .. => none
    | e => match ev e ρ with
      | some (_, d) => (pvals ev r ρ).map (d :: ·)
      | _ => none
noncomputable def truth : D → Option Bool
  | .bool b => some b
  | _ => none
noncomputable def ptests (tst : Expr → PEnv → Option Bool) (stop : Bool) : List Expr → PEnv → Option Bool
  | [], _ => some (!stop)
  | e :: r, ρ => match tst e ρ with
    | some b => if b = stop then some stop else ptests tst stop r ρ
    | none => none
noncomputable def pt (ev : Ev) : Fu → Expr → PEnv → Option Bool
  | .z, _, _ => none
  | .s n, e, ρ => match e with
    | .UnaryOp op x _ => (match op with
      | .Not => (pt ev n x ρ).map not
      | _ => none)
    | .BoolOp op vs _ => (match op with
      | .And => ptests (pt ev n) false vs ρ
      | .Or => ptests (pt ev n) true vs ρ)
    | .Compare l ops rs _ => (oneOf ops).bind fun op => (oneOf rs).bind fun r => if behindInMarks op r = true then none else (ev l ρ).bind fun a => (ev r ρ).bind fun b => if (a.1 || !(op == .In || op == .NotIn)) = true then pcmp op a.2 b.2 else none
    | .Name .. | .Call .. | .Subscript .. => (ev e ρ).bind fun a => truth a.2
    | _ => none
noncomputable def upto (a : Int) : Nat → List D
  | 0 => []
  | n + 1 => .int a :: upto (a + 1) n
noncomputable def prange (a b : Int) : Option (List D) :=
  if (small? a && small? b && decide (b - a ≤ 1000000)) = true then some (upto a (b - a).toNat) else none
noncomputable def pit (ev : Ev) (e : Expr) (ρ : PEnv) : Option (List D) := match e with
  | .Call (.Name f _) args [] _ =>
    if f == "range" then (if sc.lookup f = some .globalImplicit then (match pvals ev args ρ with
      | some [.int n] => prange 0 n
      | some [.int n, .int m] => prange n m
      | _ => none) else none)
    else none
  | .Set .. => none
  | e => match ev e ρ with
    | some (true, .list l) => if l.length ≤ 1000000 then some l else none
    | some (_, .str x) => if x.length ≤ 1000000 then some (x.map fun c => .str [c]) else none
    | _ => none
end
noncomputable def pforeach (f : D → Option (List D)) : List D → Option (List D)
  | [] => some []
  | d :: r => (f d).bind fun a => (pforeach f r).bind fun b => some (a ++ b)
noncomputable def pfilter (tst : Expr → PEnv → Option Bool) : List Expr → PEnv → Option Bool
  | [], _ => some true
  | c :: r, ρ => match tst c ρ with
    | some true => pfilter tst r ρ
    | some false => some false
    | none => none
noncomputable def own (sc : List (Str × NameKind)) (x : Str) : Bool := match sc.lookup x with
  | some .local => true
  | some .cell => true
  | _ => false
noncomputable def pturn (sc : List (Str × NameKind)) (ev : Ev) (n : Fu) (elt : Expr) : List Comprehension → PEnv → D → Option (List D)
  | [], _, _ => none
  | ⟨.Name x _, _, ifs, 0⟩ :: gs, ρ, d => if ((ρ.lookup x).isNone && own sc x) = true then (match pfilter (pt ev n) ifs (ρ.set x (false, d)) with
    | some true => (match gs with
      | [] => (match ev elt (ρ.set x (false, d)) with
        | some (true, v) => some [v]
        | _ => none)
      | _ :: _ => none)
    | some false => some []
    | none => none) else none
  | _ :: _, _, _ => none
noncomputable def inComp (scope : List (Str × NameKind)) (ρ : PEnv) : PEnv := ρ.filter fun p => decide (scope.lookup p.1 = some .free)
noncomputable def okClause : Comprehension → Bool
  | ⟨.Name _ _, _, _, 0⟩ => true
  | _ => false
noncomputable def distinct : List (Str × NameKind) → Bool
  | [] => true
  | (x, _) :: r => (r.lookup x).isNone && distinct r
noncomputable def plainName (x : Str) : Bool := !(x == ("__debug__" : Str)) && !(x == ("__classdict__" : Str))
noncomputable def caught (sc : List (Str × NameKind)) (x : Str) : Bool := match sc.lookup x with
  | some .cell => true
  | some .free => true
  | _ => false
noncomputable def compOk (sc : List (Str × NameKind)) (scope : Scope) : Bool :=
  decide (scope.kind = .function) && distinct scope.names && scope.names.all fun p => plainName p.1 && (!(p.2 == .free) || caught sc p.1)
noncomputable def okBase : Expr → Bool
  | .Call (.Name _ _) [] [] _ => false
  | _ => true
noncomputable def pbound (ev : Ev) (o : Option Expr) (ρ : PEnv) : Option (Option Int) := match o with
  | none => some none
  | some l => (match ev l ρ with | some (_, .int i) => some (some i) | _ => none)
noncomputable def peStep (G : List (Str × (List D → Option D))) (evOf : List (Str × NameKind) → Ev) (n : Fu) (sc : List (Str × NameKind)) : Ev := fun e ρ =>
  match e with
  | .Constant c _ _ => (pconst c).map fun d => (true, d)
  | .Name x _ => (ρ.lookup x).map fun u => (!u.1, u.2)
  | .UnaryOp op x _ => (match op with
    | .USub => (evOf sc x ρ).bind fun a => match a.2 with | .int i => some (true, .int (-i)) | _ => none
    | _ => none)
  | .BinOp l op r _ => (evOf sc l ρ).bind fun a => (evOf sc r ρ).bind fun b => (pbin op a.2 b.2).map fun d => (true, d)
  | .Compare l ops rs _ => (oneOf ops).bind fun op => (oneOf rs).bind fun r => if behindInMarks op r = true then none else ((evOf sc l ρ).bind fun a => (evOf sc r ρ).bind fun b => if (a.1 || !(op == .In || op == .NotIn)) = true then pcmp op a.2 b.2 else none).map fun d => (true, .bool d)
  | .IfExp t b o _ => (pt (evOf sc) n t ρ).bind fun c => if c then evOf sc b ρ else evOf sc o ρ
  | .Call f args ks pos => (match ks with
    | [] => (match f with
      | .Name f _ =>
        if sc.lookup f = some .globalImplicit then (match G.lookup f with
          | some F => (pclean (evOf sc) args ρ).bind fun ds => (F ds).map fun d => (true, d)
          | none => (pvals (evOf sc) args ρ).bind fun ds => (pbuiltin f ds).map fun d => (true, d))
        else none
      | .Attribute o m apos => (match twoS args with
        | some _ => none
        | none => if (okBase o && apos.endLine == pos.line) = true then (evOf sc o ρ).bind fun a => (pvals (evOf sc) args ρ).bind fun ds => (pmeth m a.2 ds).map fun d => (true, d) else none)
      | _ => none)
    | _ :: _ => none)
  | .Subscript v i _ => (match sliceOf i with
    | some sl => (match sl.st with
      | none => (evOf sc v ρ).bind fun a =>
        (pbound (evOf sc) sl.lo ρ).bind fun l => (pbound (evOf sc) sl.hi ρ).bind fun h =>
        (pslice a.2 l h).map fun d => (true, d)
      | some _ => none)
    | none => (evOf sc v ρ).bind fun a => (evOf sc i ρ).bind fun b => (pidx a.2 b.2).map fun d => (true, d))
  | .List es _ => (pclean (evOf sc) es ρ).bind fun ds => (mkL ds).map fun d => (true, d)
  | .Tuple es _ _ => (pclean (evOf sc) es ρ).bind fun ds => if ds.length ≤ 1000000 then some (true, .tup ds) else none
  | .ListComp elt gens scope _ => (match (replHead elt).bind fun r => (replClause gens).map fun c => (r, c) with
    | some _ => none
    | none => (match gens with
      | [] => none
      | g :: gs => if (compOk sc scope && (g :: gs).all okClause) = true then
        (pit sc (evOf sc) g.iter ρ).bind fun items => (pforeach (pturn scope.names (evOf scope.names) n elt (g :: gs) (inComp scope.names ρ)) items).bind fun l => (mkL l).map fun d => (true, d)
        else none))
  | _ => none
noncomputable def pe (G : List (Str × (List D → Option D))) : Fu → List (Str × NameKind) → Ev
  | .z, _ => fun _ _ => none
  | .s n, sc => peStep G (pe G n) n sc
inductive PFlow where
  | next
  | ret (d : D)
noncomputable def pseq (f : Stmt → PEnv → Option (PEnv × PFlow)) : List Stmt → PEnv → Option (PEnv × PFlow)
  | [], ρ => some (ρ, .next)
  | st :: r, ρ => match f st ρ with
    | some (ρ', .next) => pseq f r ρ'
    | o => o
noncomputable def ploop (x : Str) (body : PEnv → Option (PEnv × PFlow)) : List D → PEnv → Option (PEnv × PFlow)
  | [], ρ => some (ρ, .next)
  | d :: r, ρ => match body (ρ.set x (false, d)) with
    | some (ρ', .next) => ploop x body r ρ'
    | o => o
noncomputable def isListComp : Expr → Bool
  | .ListComp .. => true
  | _ => false
noncomputable def okValue : Expr → Bool
  | .SetComp .. => false
  | .DictComp .. => false
  | _ => true
noncomputable def pxStep (sc : List (Str × NameKind)) (ev : Ev) (n : Fu) (muts : List Str) (run : List Stmt → PEnv → Option (PEnv × PFlow)) (st : Stmt) (ρ : PEnv) : Option (PEnv × PFlow) :=
  match st with
  | .Assign ts e _ => (oneOf ts).bind fun t => (nameOfE t).bind fun x => (match listOfE e with
    | some es => if own sc x = true then (pclean ev es ρ).bind fun ds => if ds.length ≤ 1000000 then some (ρ.set x (muts.contains x, .list ds), .next) else none else none
    | none => if (own sc x && okValue e) = true then (match ev e ρ with
      | some (true, d) => some (ρ.set x (false, d), .next)
      | _ => none) else none)
  | .AugAssign t op e _ => (nameOfE t).bind fun x => if own sc x = true then (match ρ.lookup x, op with
    | some (false, .int a), .Add => (match ev e ρ with | some (_, .int b) => some (ρ.set x (false, .int (a + b)), .next) | _ => none)
    | some (false, .int a), .Mult => (match ev e ρ with | some (_, .int b) => if (big a && big b) = true then some (ρ.set x (false, .int (a * b)), .next) else none | _ => none)
    | some (false, .str a), .Add => (match ev e ρ with | some (_, .str b) => if (a ++ b).length ≤ 1000000 then some (ρ.set x (false, .str (a ++ b)), .next) else none | _ => none)
    | _, _ => none) else none
  | .If t b o _ => (pt ev n t ρ).bind fun c => if c then run b ρ else run o ρ
  | .For t it body els _ => (match els with
    | [] => (nameOfE t).bind fun x => if own sc x = true then (pit sc ev it ρ).bind fun items => ploop x (run body) items ρ else none
    | _ :: _ => none)
  | .Return v _ => v.bind fun e => (match nameOfE e with
    | some x => (ρ.lookup x).bind fun a => if (!a.1 || own sc x) = true then some (ρ, .ret a.2) else none
    | none => (ev e ρ).bind fun a => if a.1 = true then some (ρ, .ret a.2) else none)
  | .Expr e _ => (attrCall e).bind fun c => (nameOfE c.o).bind fun x => (oneOf c.args).bind fun a =>
    if (c.apos.endLine == c.pos.line && own sc x) = true then (match ρ.lookup x with
    | some (true, .list l) =>
      if c.m == "append" then
        (match nameOfE a with
        | some y => (match ρ.lookup y with
          | some (true, d) => if (y == x || !own sc y) = true then none else if l.length ≤ 1000000 then some ((ρ.set y (false, d)).set x (true, .list (l ++ [d])), .next) else none
          | some (false, d) => if l.length ≤ 1000000 then some (ρ.set x (true, .list (l ++ [d])), .next) else none
          | none => none)
        | none => (match pclean ev [a] ρ with
          | some [d] => if l.length ≤ 1000000 then some (ρ.set x (true, .list (l ++ [d])), .next) else none
          | _ => none))
      else if c.m == "extend" then (match pclean ev [a] ρ with
        | some [.list ds] => if (l ++ ds).length ≤ 1000000 then some (ρ.set x (true, .list (l ++ ds)), .next) else none
        | _ => none)
      else none
    | _ => none) else none
  | _ => none
noncomputable def px (sc : List (Str × NameKind)) (ev : Ev) (m : Fu) (muts : List Str) : Fu → List Stmt → PEnv → Option (PEnv × PFlow)
  | .z => fun _ _ => none
  | .s n => pseq (pxStep sc ev m muts (px sc ev m muts n))
noncomputable def fu : Fu := .s (.s (.s (.s (.s (.s (.s (.s (.s (.s (.s (.s (.s (.s (.s (.s .z)))))))))))))))
noncomputable def pdef (G : List (Str × (List D → Option D))) (params : List Str) (sc : List (Str × NameKind)) (muts : List Str) (body : List Stmt) (ds : List D) : Option D :=
  if ds.length = params.length then
    (match px sc (pe G fu sc) fu muts fu body ((params.zip ds).map fun p => (p.1, false, p.2)) with
    | some (_, .ret d) => some d
    | _ => none)
  else none
end Mine
end
section
open PySem PySem.W PyProof.Rows
set_option Elab.async false
namespace Mine
noncomputable def Weak (h : Heap) (X : Addr → Prop) (d : D) (v : Value) : Prop := match d with
  | .list l => ∃ a vs, v = .ref a ∧ h.PlainList a vs.toArray ∧ Reps h X l vs
  | d => Rep h X d v
theorem Rep.weak {h : Heap} {X : Addr → Prop} {d : D} {v : Value} (r : Rep h X d v) : Weak h X d v := by
  cases d <;> try exact r
  unfold Rep at r
  obtain ⟨a, vs, e, _, p, q⟩ := r
  exact ⟨a, vs, e, p, q⟩
theorem Weak.grow {h h' : Heap} {X : Addr → Prop} {d : D} {v : Value} (r : Weak h X d v) (g : Grown h h') : Weak h' X d v := by
  cases d <;> try exact Rep.grow r g
  obtain ⟨a, vs, e, ⟨n, p⟩, q⟩ := r
  exact ⟨a, vs, e, ⟨n, g _ _ p⟩, q.grow g⟩
theorem Weak.int {h : Heap} {X : Addr → Prop} {i : Int} {v : Value} (r : Weak h X (.int i) v) : ∃ t, v = .int i t := by
  unfold Weak Rep at r; exact r
theorem Weak.str {h : Heap} {X : Addr → Prop} {x : List Nat} {v : Value} (r : Weak h X (.str x) v) : ∃ t, v = .str (toStr x) t := by
  unfold Weak Rep at r; exact r
theorem Weak.bool {h : Heap} {X : Addr → Prop} {x : Bool} {v : Value} (r : Weak h X (.bool x) v) : v = .bool x := by
  unfold Weak Rep at r; exact r
theorem Weak.list {h : Heap} {X : Addr → Prop} {l : List D} {v : Value} (r : Weak h X (.list l) v) : ∃ a vs, v = .ref a ∧ h.PlainList a vs.toArray ∧ Reps h X l vs := r
theorem Weak.tup {h : Heap} {X : Addr → Prop} {l : List D} {v : Value} (r : Weak h X (.tup l) v) : ∃ a vs, v = .ref a ∧ PlainTup h a vs ∧ Reps h X l vs := by
  unfold Weak Rep at r
  obtain ⟨a, vs, e, _, p, q⟩ := r
  exact ⟨a, vs, e, p, q⟩
theorem Rep.int {h : Heap} {X : Addr → Prop} {i : Int} {t : Tok} : Rep h X (.int i) (.int i t) := by unfold Rep; exact ⟨t, rfl⟩
theorem Rep.bool {h : Heap} {X : Addr → Prop} {i : Bool} : Rep h X (.bool i) (.bool i) := by unfold Rep; rfl
theorem Rep.str {h : Heap} {X : Addr → Prop} {x : List Nat} {t : Tok} : Rep h X (.str x) (.str (toStr x) t) := by unfold Rep; exact ⟨t, rfl⟩
theorem Rep.strOf {h : Heap} {X : Addr → Prop} {x : Str} {t : Tok} : Rep h X (.str x.cps.toList) (.str x t) := by unfold Rep; exact ⟨t, by cases x; rfl⟩
theorem toStr_length (x : List Nat) : (toStr x).length = x.length := by simp [toStr, Str.length]
theorem toStr_append (x y : List Nat) : toStr x ++ toStr y = toStr (x ++ y) := by
  apply Str.ext'
  show ((toStr x) ++ (toStr y)).cps = _
  rw [Str.cps_append]
  simp [toStr]
noncomputable abbrev Wants (s : Shared) (X : Addr → Prop) (d : D) (Q : Value → Shared → Prop) : Prop := ∀ v s', Grow s s' → Rep s'.heap X d v → Q v s'
section
variable {prog : Program} {w : World} {A : Around} {E : Value → Shared → Prop} {s : Shared} {X : Addr → Prop} {Q : Value → Shared → Prop}
theorem want_int {i : Int} (h : Wants s X (.int i) Q) : Q (.int i s.toks) { s with toks := s.toks + 1 } := h _ _ .tok .int
theorem want_bool {i : Bool} (h : Wants s X (.bool i) Q) : Q (.bool i) s := h _ _ (.refl s) .bool
theorem want_str {x : List Nat} (h : Wants s X (.str x) Q) : ∀ t' k, Q (.str (toStr x) t') { s with toks := k } := fun _ _ => h _ _ .tok .str
theorem want_list {l : List D} {vs : List Value} (t : There X s.heap) (r : Reps s.heap X l vs) (h : Wants s X (.list l) Q) :
    Q (.ref s.heap.objs.size) { s with heap := s.heap.push { cls := .type "list", data := .seq vs.toArray } } := h _ _ (.push _) (.newList t r)
theorem muls_eq (x : List Nat) : ∀ (n : Nat) (a : Array Nat), (List.foldl (fun x1 x2 => x1 ++ x2) a (List.replicate n (toStr x).cps)).toList = a.toList ++ (List.replicate n x).flatten
  | 0, a => by simp
  | n + 1, a => by
    rw [List.replicate_succ, List.foldl_cons, muls_eq x n, List.replicate_succ, List.flatten_cons]
    simp [toStr]
theorem txt_mul (x : List Nat) (k : Int) (h0 : 0 ≤ k) : Txt.mul (toStr x) k = toStr (List.replicate k.toNat x).flatten := by
  unfold Txt.mul
  split
  · have : k = 0 := by omega
    subst this; rfl
  · split
    · rename_i h1 h2
      simp only [Bool.or_eq_true, beq_iff_eq] at h2
      rcases h2 with h2 | h2
      · subst h2; simp
      · rw [toStr_length] at h2
        have : x = [] := List.eq_nil_of_length_eq_zero h2
        subst this
        congr 1
        simp
    · apply Str.ext'
      apply Array.toList_inj.mp
      rw [muls_eq]
      simp [toStr]
theorem mulOk_small {a b : Int} (ha : a.natAbs < 2 ^ 62) (hb : b.natAbs < 2 ^ 62) : IntMulOk a b := by
  refine mulOk_of_bits (m := 64) (n := 64) ?_ ?_ (by decide)
  · exact intBits_le_64 (by omega) (by omega)
  · exact intBits_le_64 (by omega) (by omega)
theorem binop_ok {op : Operator} {a b d : D} {va vb : Value} (t : There X s.heap) (hp : pbin op a b = some d) (ha : Weak s.heap X a va) (hb : Weak s.heap X b vb)
    (h : Wants s X d Q) : wpAny (model prog w) A (binaryOp op va vb) Q E s := by
  unfold pbin at hp
  split at hp
  · split at hp
    · split at hp
      · obtain ⟨t, rfl⟩ := ha.int; obtain ⟨u, rfl⟩ := hb.int; cases hp
        exact wpAny_add_int (want_int h)
      · cases hp
    · split at hp
      · obtain ⟨t, rfl⟩ := ha.str; obtain ⟨u, rfl⟩ := hb.str
        unfold mkS at hp
        split at hp
        · rename_i x y hc; cases hp
          refine PyProof.Rows.add_str (fun t' k => ?_) (by rw [toStr_length, toStr_length, PySem.sizeLine_eq]; rw [List.length_append] at hc; omega)
          rw [toStr_append]
          exact want_str h t' k
        · cases hp
      · cases hp
    · split at hp
      · obtain ⟨a, vs, rfl, ⟨n, p1⟩, r1⟩ := ha.list
        obtain ⟨b, ws, rfl, ⟨n2, p2⟩, r2⟩ := hb.list
        unfold mkL at hp
        split at hp
        · rename_i x y hc; cases hp
          refine P.add_list (n := n) (n2 := n2) p1 p2 ?_ ?_
          · have := want_list t (r1.append r2) h
            simpa using this
          · rw [List.size_toArray, List.size_toArray, r1.length, r2.length, PySem.sizeLine_eq]
            rw [List.length_append] at hc; omega
        · cases hp
      · cases hp
    · cases hp
  · obtain ⟨⟨a, b⟩, hi, hp1⟩ := Option.map_eq_some_iff.mp hp
    clear hp
    have hp := hp1
    clear hp1
    obtain ⟨rfl, rfl⟩ := ints2_is hi
    dsimp only at hp
    obtain ⟨t, rfl⟩ := ha.int; obtain ⟨u, rfl⟩ := hb.int; cases hp
    exact SiftDown.sub_int (want_int h)
  · split at hp
    · split at hp
      · obtain ⟨t, rfl⟩ := ha.int; obtain ⟨u, rfl⟩ := hb.int
        split at hp
        · rename_i hc; cases hp
          simp only [big, Bool.and_eq_true, decide_eq_true_eq] at hc
          exact P.mul_int (want_int h) (mulOk_small hc.1 hc.2)
        · cases hp
      · cases hp
    · split at hp
      · obtain ⟨t, rfl⟩ := ha.str; obtain ⟨u, rfl⟩ := hb.int
        split at hp
        · rename_i x _ k hc
          unfold mkS at hp
          split at hp
          · rename_i hl; cases hp
            simp only [Bool.and_eq_true, decide_eq_true_eq] at hc
            have hlen : (List.replicate k.toNat x).flatten.length = k.toNat * x.length := by simp
            refine SB.mul (n := k) ⟨?_, ?_, ?_⟩ ?_
            · simp only [Bool.or_eq_false_iff, decide_eq_false_iff_not]; omega
            · intro h1 h2
              rw [toStr_length]
              have hx : (x.length : Int) ≤ 1000000 := by
                have h3 : 1 * x.length ≤ k.toNat * x.length := Nat.mul_le_mul_right _ (by omega)
                omega
              have h4 : (1000000 : Int) ≤ (2 ^ 63 - 1) / k := (Int.le_ediv_iff_mul_le (by omega)).mpr (by omega)
              omega
            · intro h1 h2
              rw [toStr_length]
              unfold Builtin.Str.tooLong
              rw [PySem.sizeLine_eq]
              refine decide_eq_false ?_
              have : x.length * k.toNat = k.toNat * x.length := Nat.mul_comm _ _
              omega
            · intro t' k'
              rw [txt_mul x k hc.1]
              exact want_str h t' k'
          · cases hp
        · cases hp
      · cases hp
    · cases hp
  · obtain ⟨⟨a, b⟩, hi, hp1⟩ := Option.bind_eq_some_iff.mp hp
    clear hp
    have hp := hp1
    clear hp1
    obtain ⟨rfl, rfl⟩ := ints2_is hi
    dsimp only at hp
    obtain ⟨t, rfl⟩ := ha.int; obtain ⟨u, rfl⟩ := hb.int
    split at hp
    · rename_i hc; cases hp
      simp only [Bool.and_eq_true, decide_eq_true_eq, bne_iff_ne] at hc
      exact PyProof.Rows.floordiv_int hc.1 (want_int h) (.inl (PyProof.noPylong_small hc.2))
    · cases hp
  · obtain ⟨⟨a, b⟩, hi, hp1⟩ := Option.bind_eq_some_iff.mp hp
    clear hp
    have hp := hp1
    clear hp1
    obtain ⟨rfl, rfl⟩ := ints2_is hi
    dsimp only at hp
    obtain ⟨t, rfl⟩ := ha.int; obtain ⟨u, rfl⟩ := hb.int
    split at hp
    · rename_i hc; cases hp
      exact PyProof.Rows.mod_int' (by simpa using hc) (want_int h)
    · cases hp
  · obtain ⟨⟨a, b⟩, hi, hp1⟩ := Option.bind_eq_some_iff.mp hp
    clear hp
    have hp := hp1
    clear hp1
    obtain ⟨rfl, rfl⟩ := ints2_is hi
    dsimp only at hp
    obtain ⟨t, rfl⟩ := ha.int; obtain ⟨u, rfl⟩ := hb.int
    split at hp
    · rename_i hc; cases hp
      simp only [Bool.and_eq_true, decide_eq_true_eq] at hc
      have hbits : Builtin.Int.intBits a ≤ 64 := intBits_le_64 (by omega) (by omega)
      refine PyProof.Rows.pow_int hc.1.1 ?_ (want_int h)
      have h1 : (Builtin.Int.intBits a : Int) * b ≤ 64 * 64 := Int.mul_le_mul (by omega) hc.1.2 hc.1.1 (by omega)
      dsimp only
      omega
    · cases hp
  · obtain ⟨⟨a, b⟩, hi, hp1⟩ := Option.map_eq_some_iff.mp hp
    clear hp
    have hp := hp1
    clear hp1
    obtain ⟨rfl, rfl⟩ := ints2_is hi
    dsimp only at hp
    obtain ⟨t, rfl⟩ := ha.int; obtain ⟨u, rfl⟩ := hb.int; cases hp
    exact PyProof.Rows.and_int (want_int h)
  · cases hp
end
end Mine
end
section
open PySem PySem.W PyProof.Rows PySem.SeqAt
set_option Elab.async false
namespace Mine
section
variable {h : Heap} {X : Addr → Prop}
mutual
theorem Rep.det : ∀ {a b : D} {v : Value}, Rep h X a v → Rep h X b v → a = b
  | .none, b, v, r, r' => by
    unfold Rep at r; subst r
    cases b <;> unfold Rep at r' <;> first | rfl | (cases r'; done) | (obtain ⟨_, q⟩ := r'; cases q; done) | (obtain ⟨_, _, q, _⟩ := r'; cases q; done)
  | .bool x, b, v, r, r' => by
    unfold Rep at r; subst r
    cases b <;> unfold Rep at r' <;> first | (cases r'; rfl) | (cases r'; done) | (obtain ⟨_, q⟩ := r'; cases q; done) | (obtain ⟨_, _, q, _⟩ := r'; cases q; done)
  | .int x, b, v, r, r' => by
    unfold Rep at r; obtain ⟨t, rfl⟩ := r
    cases b <;> unfold Rep at r' <;> first | (cases r'; done) | (obtain ⟨_, q⟩ := r'; cases q; rfl) | (obtain ⟨_, q⟩ := r'; cases q; done) | (obtain ⟨_, _, q, _⟩ := r'; cases q; done)
  | .str x, b, v, r, r' => by
    unfold Rep at r; obtain ⟨t, rfl⟩ := r
    cases b <;> unfold Rep at r' <;> first | (cases r'; done) | (obtain ⟨_, q⟩ := r'; injection q with q _; injection q with q; rw [show x = _ by simpa using q]; done) | (obtain ⟨_, q⟩ := r'; cases q; done) | (obtain ⟨_, _, q, _⟩ := r'; cases q; done)
  | .list l, b, v, r, r' => by
    unfold Rep at r; obtain ⟨a, vs, rfl, _, ⟨n, p⟩, r1⟩ := r
    cases b <;> unfold Rep at r' <;> first | (cases r'; done) | (obtain ⟨_, q⟩ := r'; cases q; done) | skip
    · obtain ⟨b, ws, q, _, ⟨m, p'⟩, r2⟩ := r'
      cases q
      rw [p] at p'
      have : vs = ws := by injection p' with p'; injection p' with _ _ p'; injection p' with p' _; simpa using p'
      subst this
      rw [Reps.det r1 r2]
    · obtain ⟨b, ws, q, _, ⟨m, p'⟩, r2⟩ := r'
      cases q
      rw [p] at p'
      have p'' := Option.some.inj p'
      unfold tupObj at p''
      injection p'' with c
      injection c with c
      exact absurd c (by decide)
  | .tup l, b, v, r, r' => by
    unfold Rep at r; obtain ⟨a, vs, rfl, _, ⟨n, p⟩, r1⟩ := r
    cases b <;> unfold Rep at r' <;> first | (cases r'; done) | (obtain ⟨_, q⟩ := r'; cases q; done) | skip
    · obtain ⟨b, ws, q, _, ⟨m, p'⟩, r2⟩ := r'
      cases q
      rw [p] at p'
      have p'' := Option.some.inj p'
      unfold tupObj at p''
      injection p'' with c
      injection c with c
      exact absurd c (by decide)
    · obtain ⟨b, ws, q, _, ⟨m, p'⟩, r2⟩ := r'
      cases q
      rw [p] at p'
      have : vs = ws := by
        have p3 := Option.some.inj p'
        unfold tupObj at p3
        injection p3 with _ _ p3; injection p3 with p3 _; simpa using p3
      subst this
      rw [Reps.det r1 r2]
theorem Reps.det : ∀ {as bs : List D} {vs : List Value}, Reps h X as vs → Reps h X bs vs → as = bs
  | [], bs, vs, r, r' => by
    unfold Reps at r; subst r
    cases bs with
    | nil => rfl
    | cons b bs => unfold Reps at r'; obtain ⟨_, _, q, _⟩ := r'; cases q
  | a :: as, bs, vs, r, r' => by
    unfold Reps at r; obtain ⟨v, t, rfl, r1, r2⟩ := r
    cases bs with
    | nil => unfold Reps at r'; cases r'
    | cons b bs =>
      unfold Reps at r'; obtain ⟨_, _, q, r1', r2'⟩ := r'; cases q
      rw [Rep.det r1 r1', Reps.det r2 r2']
end
theorem deqs_self {f : D → D → Option Bool} (hf : ∀ a k, f a a = some k → k = true) : ∀ (as : List D) (k : Bool), deqs f as as = some k → k = true
  | [], k, e => by unfold deqs at e; cases e; rfl
  | a :: as, k, e => by
    unfold deqs at e
    cases h1 : f a a with
    | none => rw [h1] at e; cases e
    | some x =>
      rw [h1] at e
      cases h2 : deqs f as as with
      | none => rw [h2] at e; cases e
      | some y => rw [h2] at e; cases e; rw [hf a x h1, deqs_self hf as y h2]; rfl
theorem deqN_self : ∀ (n : Fu) (a : D) (k : Bool), deqN n a a = some k → k = true := by
  intro n
  induction n with
  | z => intro a k e; cases a <;> unfold deqN at e <;> cases e <;> simp
  | s n ih =>
    intro a k e
    cases a <;> unfold deqN at e
    case list l => rw [if_pos rfl] at e; exact deqs_self ih l k e
    case tup l => rw [if_pos rfl] at e; exact deqs_self ih l k e
    all_goals (cases e; try simp)
theorem deqN_same (n : Fu) (a b : D) (v : Value) (k : Bool) (r : Rep h X a v) (r' : Rep h X b v) (e : deqN n a b = some k) : k = true := by
  rw [Rep.det r r'] at e
  exact deqN_self n b k e
theorem plainTup_is {a : Addr} {vs : List Value} (p : PlainTup h a vs) : h.IsTuple a vs.toArray := by
  obtain ⟨n, p⟩ := p; exact ⟨_, p, rfl, n, rfl⟩
end
section
variable {A : Around} {s : Shared} {X : Addr → Prop}
theorem deqs_places {f : D → D → Option Bool} : ∀ (as bs : List D) (vs ws : List Value) (k : Bool), Reps s.heap X as vs → Reps s.heap X bs ws → vs.length = ws.length → deqs f as bs = some k →
    (∀ a b v w k, Rep s.heap X a v → Rep s.heap X b w → f a b = some k → EqAt A s v w k) →
    ∃ e : Nat → Bool, (∀ j (h1 : j < vs.toArray.size) (h2 : j < ws.toArray.size), EqAt A s vs.toArray[j] ws.toArray[j] (e j)) ∧ (List.range vs.length).all e = k
  | [], [], vs, ws, k, r, r', _, e, _ => by
    unfold Reps at r; subst r
    unfold deqs at e; cases e
    exact ⟨fun _ => true, fun j h1 _ => absurd h1 (by simp), by simp⟩
  | [], b :: bs, vs, ws, k, r, r', hl, e, _ => by
    unfold Reps at r; subst r
    have := r'.length
    rw [← hl] at this
    simp at this
  | a :: as, [], vs, ws, k, r, r', hl, e, _ => by
    unfold Reps at r'; subst r'
    have := r.length
    rw [hl] at this
    simp at this
  | a :: as, b :: bs, vs, ws, k, r, r', hl, e, hf => by
    unfold Reps at r r'
    obtain ⟨v, t, rfl, r1, r2⟩ := r
    obtain ⟨v', t', rfl, r1', r2'⟩ := r'
    unfold deqs at e
    cases h1 : f a b with
    | none => rw [h1] at e; cases e
    | some x =>
      rw [h1] at e
      cases h2 : deqs f as bs with
      | none => rw [h2] at e; cases e
      | some y =>
        rw [h2] at e
        cases e
        obtain ⟨g, g1, g2⟩ := deqs_places as bs t t' y r2 r2' (by simpa using hl) h2 hf
        refine ⟨fun j => match j with | 0 => x | j + 1 => g j, ?_, ?_⟩
        · intro j q1 q2
          cases j with
          | zero => exact hf a b v v' x r1 r1' h1
          | succ j => exact g1 j (by simpa using q1) (by simpa using q2)
        · rw [List.length_cons, List.range_succ_eq_map, List.all_cons, List.all_map]
          show (x && (List.range t.length).all g) = _
          rw [g2]
theorem beq_arr (x y : List Nat) : ((⟨x.toArray⟩ : Str) == ⟨y.toArray⟩) = (x == y) := by
  rw [Bool.eq_iff_iff, beq_iff_eq, beq_iff_eq]
  exact ⟨fun q => by injection q with q; simpa using q, fun q => by rw [q]⟩
theorem eqAt_str (x y : List Nat) (t u : Tok) : EqAt A s (.str ⟨x.toArray⟩ t) (.str ⟨y.toArray⟩ u) (x == y) := by
  have := EqAt.str_str (A := A) (s := s) ⟨x.toArray⟩ t ⟨y.toArray⟩ u
  rw [beq_arr] at this
  exact this
theorem eqAt_ok : ∀ (n : Fu) (A : Around) (a b : D) (v w : Value) (k : Bool), A.units + 20 + sizeOf n < cLine → Rep s.heap X a v → Rep s.heap X b w → deqN n a b = some k → EqAt A s v w k := by
  intro n
  induction n with
  | z =>
    intro A a b v w k hu r r' e
    unfold deqN at e
    split at e <;> first | (cases e; done) | skip
    · unfold Rep at r r'; obtain ⟨t, rfl⟩ := r; obtain ⟨u, rfl⟩ := r'; cases e; exact EqAt.int_int _ t _ u
    · unfold Rep at r r'; obtain ⟨t, rfl⟩ := r; obtain ⟨u, rfl⟩ := r'; cases e
      exact eqAt_str _ _ t u
    · rename_i hz; cases hz
    · rename_i hz; cases hz
  | s n ih =>
    intro A a b v w k hu r r' e
    have hu' : A.in1.units + 20 + sizeOf n < cLine := by
      show A.units + 1 + 20 + sizeOf n < cLine
      have : sizeOf (Fu.s n) = 1 + sizeOf n := by simp
      omega
    have hA : A.units < cLine := by omega
    by_cases hsame : v = w
    · subst hsame
      rw [deqN_same _ _ _ _ _ r r' e]
      exact EqAt.same v
    unfold deqN at e
    split at e <;> first | (cases e; done) | skip
    · unfold Rep at r r'; obtain ⟨t, rfl⟩ := r; obtain ⟨u, rfl⟩ := r'; cases e; exact EqAt.int_int _ t _ u
    · unfold Rep at r r'; obtain ⟨t, rfl⟩ := r; obtain ⟨u, rfl⟩ := r'; cases e
      exact eqAt_str _ _ t u
    · rename_i as bs hz
      cases hz
      unfold Rep at r r'
      obtain ⟨a, vs, rfl, _, p1, r1⟩ := r
      obtain ⟨b, ws, rfl, _, p2, r2⟩ := r'
      refine EqAt.of_refs (fun q => hsame (by rw [q])) ?_
      by_cases hl : as.length = bs.length
      · rw [if_pos hl] at e
        obtain ⟨g, g1, g2⟩ := deqs_places (A := A.in1) as bs vs ws k r1 r2 (by rw [r1.length, r2.length, hl]) e (fun a b v w k q1 q2 q3 => ih A.in1 a b v w k hu' q1 q2 q3)
        have := RcAt.lists p1.isList p2.isList (by simp [r1.length, r2.length, hl]) hA g1
        rw [List.size_toArray, g2] at this
        exact this
      · rw [if_neg hl] at e
        cases e
        exact RcAt.lists_lengths p1.isList p2.isList (by simp [r1.length, r2.length, hl]) hA
    · rename_i as bs hz
      cases hz
      unfold Rep at r r'
      obtain ⟨a, vs, rfl, _, p1, r1⟩ := r
      obtain ⟨b, ws, rfl, _, p2, r2⟩ := r'
      refine EqAt.of_refs (fun q => hsame (by rw [q])) ?_
      by_cases hl : as.length = bs.length
      · rw [if_pos hl] at e
        obtain ⟨g, g1, g2⟩ := deqs_places (A := A.in1) as bs vs ws k r1 r2 (by rw [r1.length, r2.length, hl]) e (fun a b v w k q1 q2 q3 => ih A.in1 a b v w k hu' q1 q2 q3)
        have := RcAt.tuples (plainTup_is p1) (plainTup_is p2) hA g1
        have hsz : vs.length = ws.length := by rw [r1.length, r2.length, hl]
        simp only [List.size_toArray, hsz, Nat.min_self, beq_self_eq_true, Bool.and_true] at this
        rw [← hsz, g2] at this
        exact this
      · rw [if_neg hl] at e
        cases e
end
section
variable {prog : Program} {w : World} {A : Around} {E : Value → Shared → Prop} {s : Shared} {X : Addr → Prop} {Q : Value → Shared → Prop}
theorem eq_lists {as bs : List D} {va vb : Value} {k : Bool} (hu : A.units + 40 < cLine) (ha : Weak s.heap X (.list as) va) (hb : Weak s.heap X (.list bs) vb) (e : deq (.list as) (.list bs) = some k)
    (h : Q (.bool k) s) : wpAny (model prog w) A (compareOp .Eq va vb) Q E s := by
  obtain ⟨a, vs, rfl, p1, r1⟩ := ha.list
  obtain ⟨b, ws, rfl, p2, r2⟩ := hb.list
  unfold deq deqN at e
  have hA : A.units < cLine := by omega
  by_cases hl : as.length = bs.length
  · rw [if_pos hl] at e
    obtain ⟨g, g1, g2⟩ := deqs_places (A := A.in1) as bs vs ws k r1 r2 (by rw [r1.length, r2.length, hl]) e
      (fun a b v w k q1 q2 q3 => eqAt_ok _ A.in1 a b v w k (by show A.units + 1 + 20 + _ < cLine; simp; omega) q1 q2 q3)
    have := RcAt.lists p1.isList p2.isList (by simp [r1.length, r2.length, hl]) hA g1
    rw [List.size_toArray, g2] at this
    exact this prog w E Q h
  · rw [if_neg hl] at e
    cases e
    exact RcAt.lists_lengths p1.isList p2.isList (by simp [r1.length, r2.length, hl]) hA prog w E Q h
theorem ne_lists {as bs : List D} {va vb : Value} {k : Bool} (hu : A.units + 40 < cLine) (ha : Weak s.heap X (.list as) va) (hb : Weak s.heap X (.list bs) vb) (e : deq (.list as) (.list bs) = some k)
    (h : Q (.bool (!k)) s) : wpAny (model prog w) A (compareOp .NotEq va vb) Q E s := by
  obtain ⟨a, vs, rfl, p1, r1⟩ := ha.list
  obtain ⟨b, ws, rfl, p2, r2⟩ := hb.list
  unfold deq deqN at e
  have hA : A.units < cLine := by omega
  by_cases hl : as.length = bs.length
  · rw [if_pos hl] at e
    obtain ⟨g, g1, g2⟩ := deqs_places (A := A.in1) as bs vs ws k r1 r2 (by rw [r1.length, r2.length, hl]) e
      (fun a b v w k q1 q2 q3 => eqAt_ok _ A.in1 a b v w k (by show A.units + 1 + 20 + _ < cLine; simp; omega) q1 q2 q3)
    have := RcNeAt.lists p1.isList p2.isList (by simp [r1.length, r2.length, hl]) hA g1
    rw [List.size_toArray, g2] at this
    exact this prog w E Q h
  · rw [if_neg hl] at e
    cases e
    exact RcNeAt.lists_lengths p1.isList p2.isList (by simp [r1.length, r2.length, hl]) hA prog w E Q h
theorem ne_tups {as bs : List D} {va vb : Value} {k : Bool} (hu : A.units + 40 < cLine) (ha : Weak s.heap X (.tup as) va) (hb : Weak s.heap X (.tup bs) vb) (e : deq (.tup as) (.tup bs) = some k)
    (h : Q (.bool (!k)) s) : wpAny (model prog w) A (compareOp .NotEq va vb) Q E s := by
  obtain ⟨a, vs, rfl, p1, r1⟩ := ha.tup
  obtain ⟨b, ws, rfl, p2, r2⟩ := hb.tup
  unfold deq deqN at e
  have hA : A.units < cLine := by omega
  by_cases hl : as.length = bs.length
  · rw [if_pos hl] at e
    obtain ⟨g, g1, g2⟩ := deqs_places (A := A.in1) as bs vs ws k r1 r2 (by rw [r1.length, r2.length, hl]) e
      (fun a b v w k q1 q2 q3 => eqAt_ok _ A.in1 a b v w k (by show A.units + 1 + 20 + _ < cLine; simp; omega) q1 q2 q3)
    have := RcNeAt.tuples (plainTup_is p1) (plainTup_is p2) hA g1
    have hsz : vs.length = ws.length := by rw [r1.length, r2.length, hl]
    simp only [List.size_toArray, hsz, Nat.min_self, beq_self_eq_true, Bool.and_true] at this
    rw [← hsz, g2] at this
    exact this prog w E Q h
  · rw [if_neg hl] at e
    cases e
open Classical in
theorem din_any {a : D} {va : Value} (hu : A.units + 40 < cLine) (ra : Rep s.heap X a va) : ∀ (l : List D) (vs : List Value) (k : Bool), Reps s.heap X l vs → din a l = some k →
    (∀ y, y ∈ vs → EqAt A s y va (decide (∃ d, Rep s.heap X d y ∧ deq d a = some true))) ∧ vs.any (fun y => decide (∃ d, Rep s.heap X d y ∧ deq d a = some true)) = k
  | [], vs, k, r, h => by
    unfold Reps at r; subst r
    unfold din at h; cases h
    exact ⟨fun _ hy => (nomatch hy), rfl⟩
  | b :: l, vs, k, r, h => by
    unfold Reps at r
    obtain ⟨v, t, rfl, r1, r2⟩ := r
    unfold din at h
    cases h1 : deq b a with
    | none => rw [h1] at h; cases h
    | some x =>
      rw [h1] at h
      cases h2 : din a l with
      | none => rw [h2] at h; cases h
      | some y =>
        rw [h2] at h
        cases h
        obtain ⟨g1, g2⟩ := din_any hu ra l t y r2 h2
        have hx : EqAt A s v va x := eqAt_ok _ A b a v va x (by simp; omega) r1 ra h1
        have ex : (decide (∃ d, Rep s.heap X d v ∧ deq d a = some true)) = x := by
          cases x with
          | true => exact decide_eq_true ⟨b, r1, h1⟩
          | false =>
            refine decide_eq_false ?_
            rintro ⟨d, q1, q2⟩
            rw [Rep.det q1 r1, h1] at q2
            cases q2
        refine ⟨fun z hz => ?_, ?_⟩
        · rcases List.mem_cons.mp hz with q | q
          · subst q; rw [ex]; exact hx
          · exact g1 z q
        · rw [List.any_cons, ex, g2]
theorem cmp_ok {op : CmpOp} {a b : D} {va vb : Value} {k : Bool} (hu : A.units + 41 < cLine) (hp : pcmp op a b = some k) (ha : Weak s.heap X a va) (hb : Weak s.heap X b vb)
    (hin : op = .In ∨ op = .NotIn → Rep s.heap X a va) (h : Q (.bool k) s) : wpAny (model prog w) A (compareOp op va vb) Q E s := by
  unfold pcmp at hp
  split at hp
  · have hp' := hp
    unfold deq deqN at hp
    split at hp
    · obtain ⟨t, rfl⟩ := ha.int; obtain ⟨u, rfl⟩ := hb.int; cases hp; exact P.eq_int h
    · obtain ⟨t, rfl⟩ := ha.str; obtain ⟨u, rfl⟩ := hb.str; cases hp; exact P.eq_str (by simpa [toStr] using h)
    · exact eq_lists (by omega) ha hb hp' h
    · rename_i as bs _
      obtain ⟨a, vs, rfl, p1, r1⟩ := ha.tup
      obtain ⟨b, ws, rfl, p2, r2⟩ := hb.tup
      by_cases hl : as.length = bs.length
      · rw [if_pos hl] at hp
        rename_i hz
        cases hz
        obtain ⟨g, g1, g2⟩ := deqs_places (A := A.in1) as bs vs ws k r1 r2 (by rw [r1.length, r2.length, hl]) hp
          (fun a b v w k q1 q2 q3 => eqAt_ok _ A.in1 a b v w k (by show A.units + 1 + 20 + _ < cLine; simp; omega) q1 q2 q3)
        have := RcAt.tuples (plainTup_is p1) (plainTup_is p2) (by omega) g1
        have hsz : vs.length = ws.length := by rw [r1.length, r2.length, hl]
        simp only [List.size_toArray, hsz, Nat.min_self, beq_self_eq_true, Bool.and_true] at this
        rw [← hsz, g2] at this
        exact this prog w E Q h
      · rw [if_neg hl] at hp
        cases hp
    · cases hp
  · obtain ⟨k', hd, rfl⟩ := Option.map_eq_some_iff.mp hp
    · have hp' := hd
      unfold deq deqN at hd
      split at hd
      · obtain ⟨t, rfl⟩ := ha.int; obtain ⟨u, rfl⟩ := hb.int; cases hd; exact P.ne_int h
      · obtain ⟨t, rfl⟩ := ha.str; obtain ⟨u, rfl⟩ := hb.str; cases hd; exact P.ne_str (by simpa [toStr, bne] using h)
      · exact ne_lists (by omega) ha hb hp' h
      · exact ne_tups (by omega) ha hb hp' h
      · cases hd
  · obtain ⟨p, hi, rfl⟩ := Option.map_eq_some_iff.mp hp
    obtain ⟨rfl, rfl⟩ := ints2_is hi
    obtain ⟨t, rfl⟩ := ha.int; obtain ⟨u, rfl⟩ := hb.int; exact P.lt_int h
  · obtain ⟨p, hi, rfl⟩ := Option.map_eq_some_iff.mp hp
    obtain ⟨rfl, rfl⟩ := ints2_is hi
    obtain ⟨t, rfl⟩ := ha.int; obtain ⟨u, rfl⟩ := hb.int; exact P.le_int h
  · obtain ⟨p, hi, rfl⟩ := Option.map_eq_some_iff.mp hp
    obtain ⟨rfl, rfl⟩ := ints2_is hi
    obtain ⟨t, rfl⟩ := ha.int; obtain ⟨u, rfl⟩ := hb.int; exact P.gt_int h
  · obtain ⟨p, hi, rfl⟩ := Option.map_eq_some_iff.mp hp
    obtain ⟨rfl, rfl⟩ := ints2_is hi
    obtain ⟨t, rfl⟩ := ha.int; obtain ⟨u, rfl⟩ := hb.int; exact P.ge_int h
  · split at hp
    · obtain ⟨c, hi, rfl⟩ := Option.map_eq_some_iff.mp hp
      obtain rfl := oneCh_is hi
      obtain ⟨t, rfl⟩ := ha.str; obtain ⟨u, rfl⟩ := hb.str
      refine P.in_str ?_
      rw [show (toStr [_]) = ⟨#[_]⟩ from rfl, StrLaws.found_one, ← List.contains_eq_mem]
      exact h
    · obtain ⟨b, ws, rfl, p2, r2⟩ := hb.list
      obtain ⟨g1, g2⟩ := din_any (A := A.in1) (by show A.units + 1 + 40 < cLine; omega) (hin (.inl rfl)) _ _ _ r2 hp
      refine in_listAt _ p2.isList (fun y hy => g1 y (by simpa using hy)) ?_
      simp only [List.any_toArray]
      rw [g2]; exact h
    · obtain ⟨b, ws, rfl, p2, r2⟩ := hb.tup
      obtain ⟨g1, g2⟩ := din_any (A := A.in1) (by show A.units + 1 + 40 < cLine; omega) (hin (.inl rfl)) _ _ _ r2 hp
      refine in_tupleAt _ (plainTup_is p2) (fun y hy => g1 y (by simpa using hy)) ?_
      simp only [List.any_toArray]
      rw [g2]; exact h
    · cases hp
  · split at hp
    · obtain ⟨c, hi, rfl⟩ := Option.map_eq_some_iff.mp hp
      obtain rfl := oneCh_is hi
      obtain ⟨t, rfl⟩ := ha.str; obtain ⟨u, rfl⟩ := hb.str
      refine P.notIn_str ?_
      rw [show (toStr [_]) = ⟨#[_]⟩ from rfl, StrLaws.found_one, ← List.contains_eq_mem]
      exact h
    · obtain ⟨b, ws, rfl, p2, r2⟩ := hb.list
      obtain ⟨k', hd, rfl⟩ := Option.map_eq_some_iff.mp hp
      · obtain ⟨g1, g2⟩ := din_any (A := A.in1) (by show A.units + 1 + 40 < cLine; omega) (hin (.inr rfl)) _ _ _ r2 hd
        refine notIn_listAt _ p2.isList (fun y hy => g1 y (by simpa using hy)) ?_
        simp only [List.any_toArray]
        rw [g2]; exact h
    · cases hp
  · cases hp
end
end Mine
end
section
open PySem PySem.W PyProof.Rows
set_option Elab.async false
namespace Mine
section
variable {prog : Program} {w : World} {A : Around} {E : Value → Shared → Prop} {s : Shared} {X : Addr → Prop} {Q : Value → Shared → Prop}
theorem idx_ok {a b d : D} {va vb : Value} (hp : pidx a b = some d) (ha : Weak s.heap X a va) (hb : Weak s.heap X b vb) (h : Wants s X d Q) :
    ∃ T id, s.TypeIs va T ∧ typeLookup (.type T) "__getitem__" = pure (some (.builtin id)) ∧ wpAny (model prog w) A (getItem va vb) Q E s := by
  unfold pidx pat at hp
  split at hp
  · obtain ⟨t, rfl⟩ := ha.str; obtain ⟨u, rfl⟩ := hb.int
    rename_i x i
    obtain ⟨c, hc, rfl⟩ := Option.map_eq_some_iff.mp hp
    split at hc
    · rename_i hs
      simp only [Bool.and_eq_true, decide_eq_true_eq] at hs
      refine ⟨"str", _, typeIs_str _ _ _, F.slot_str_getitem.lookup, P.getItem_str (c := c) ?_ ?_ (want_str h s.toks (s.toks + 1))⟩
      · simp only [Bool.or_eq_false_iff, decide_eq_false_iff_not]; omega
      · rw [toStr_length]
        simpa [toStr] using hc
    · cases hc
  · obtain ⟨a, vs, rfl, p, r⟩ := ha.list; obtain ⟨u, rfl⟩ := hb.int
    rename_i l i
    split at hp
    · rename_i hs
      simp only [Bool.and_eq_true, decide_eq_true_eq] at hs
      unfold seqIndex? at hp
      refine ⟨"list", _, p.isList.typeIs, slot_list_getitem.lookup, ?_⟩
      by_cases h0 : i < 0
      · simp only [h0, if_true] at hp
        split at hp
        · rename_i hj
          simp only [Bool.and_eq_true, decide_eq_true_eq] at hj
          obtain ⟨v, hv, hr⟩ := r.get (by simpa using hp)
          refine wpAny_getItem_list_neg p.isList h0 ?_ (by omega) (x := v) ?_ (h _ _ (.refl s) hr)
          · simp only [List.size_toArray, r.length]; omega
          · simp only [List.size_toArray, r.length]
            simpa using hv
        · cases hp
      · simp only [h0, if_false] at hp
        split at hp
        · obtain ⟨v, hv, hr⟩ := r.get (by simpa using hp)
          exact wpAny_getItem_list p.isList (by omega) (by omega) (by simpa using hv) (h _ _ (.refl s) hr)
        · cases hp
    · cases hp
  · obtain ⟨a, vs, rfl, p, r⟩ := ha.tup; obtain ⟨u, rfl⟩ := hb.int
    rename_i l i
    split at hp
    · rename_i hs
      simp only [Bool.and_eq_true, decide_eq_true_eq] at hs
      cases hj : seqIndex? i l.length with
      | none => rw [hj] at hp; cases hp
      | some j =>
        rw [hj] at hp
        obtain ⟨v, hv, hr⟩ := r.get (by simpa using hp)
        have ht : IsTup s.heap a vs.toArray := by obtain ⟨n, p⟩ := p; exact ⟨_, p, rfl, n, rfl⟩
        exact ⟨"tuple", _, ht.typeIs, slot_tuple_getitem.lookup, getItem_tuple ht (by omega) (by omega) (j := j) (by simpa [r.length] using hj) (x := v) (by simpa using hv) (h _ _ (.refl s) hr)⟩
    · cases hp
  · cases hp
theorem txt_slice (x : List Nat) (l u : Option Int) : Txt.slice (toStr x) l u = toStr (pcut x l u) := by
  have e : Builtin.Str.strSliceIndices l u 1 x.length = (List.range ((u.elim x.length (clipAt x.length)) - (l.elim 0 (clipAt x.length)))).map ((l.elim 0 (clipAt x.length)) + ·) := by
    rw [← sliceRange_one]
    unfold Builtin.Str.strSliceIndices
    cases l <;> cases u <;> simp [clipAt_cast]
  have hp := pick_run (toStr x).cps (l.elim 0 (clipAt x.length)) ((u.elim x.length (clipAt x.length)) - (l.elim 0 (clipAt x.length)))
  have hx : (toStr x).cps.toList = x := by simp [toStr]
  rw [hx] at hp
  unfold Txt.slice
  rw [toStr_length, e]
  split
  · rename_i hc
    simp only [beq_self_eq_true, Bool.true_and, beq_iff_eq, List.length_map, List.length_range] at hc
    congr 1
    unfold pcut
    have hl : (l.elim 0 (clipAt x.length)) = 0 ∨ x.length = 0 := by
      have : (u.elim x.length (clipAt x.length)) ≤ x.length := by
        cases u with
        | none => exact Nat.le_refl _
        | some i => have := clipAt_cast x.length i; show clipAt x.length i ≤ _; omega
      omega
    rcases hl with hl | hl
    · rw [hc, hl]; simp
    · have : x = [] := List.eq_nil_of_length_eq_zero hl
      subst this; simp
  · rw [hp]; rfl
noncomputable def Bound (o : Option Int) (v : Value) : Prop := match o with
  | none => v = .none
  | some i => ∃ t, v = .int i t
theorem Bound.part {o : Option Int} {v : Value} (b : Bound o v) : IsPart v o := by
  cases o with
  | none => cases b; exact .none
  | some i => obtain ⟨t, rfl⟩ := b; exact .int i t
theorem Bound.pair {o : Option Int} {v : Value} (b : Bound o v) : ∃ p : Option (Int × Tok), v = partValue p ∧ p.map (·.1) = o := by
  cases o with
  | none => cases b; exact ⟨none, rfl, rfl⟩
  | some i => obtain ⟨t, rfl⟩ := b; exact ⟨some (i, t), rfl, rfl⟩
theorem slice_ok {a d : D} {va vl vu : Value} {lo hi : Option Int} (t : There X s.heap) (hp : pslice a lo hi = some d) (ha : Weak s.heap X a va) (hl : Bound lo vl) (hu : Bound hi vu) (h : Wants s X d Q) :
    ∃ T id, Shared.TypeIs { s with heap := s.heap.push { cls := .type "slice", data := .fields #[vl, vu, .none] } } va T ∧ typeLookup (.type T) "__getitem__" = pure (some (.builtin id)) ∧
      wpAny (model prog w) A (getItem va (.ref s.heap.objs.size)) Q E { s with heap := s.heap.push { cls := .type "slice", data := .fields #[vl, vu, .none] } } := by
  unfold pslice at hp
  split at hp
  · split at hp
    · rename_i x
      obtain ⟨t', rfl⟩ := ha.str
      split at hp
      · rename_i hsz
        cases hp
        obtain ⟨pl, rfl, el⟩ := hl.pair
        obtain ⟨pu, rfl, eu⟩ := hu.pair
        refine ⟨"str", _, typeIs_str _ _ _, F.slot_str_getitem.lookup, wpAny_getItem_str_slice (l := pl) (u := pu) (st := none) ⟨_, Heap.get?_push_size _ rfl, rfl, rfl⟩ rfl ?_⟩
        have key : (if ((1 : Int) == 1 && (Builtin.Str.strSliceIndices lo hi 1 (toStr x).length).length == (toStr x).length) = true then toStr x else ⟨((Builtin.Str.strSliceIndices lo hi 1 (toStr x).length).filterMap ((toStr x).cps[·]?)).toArray⟩) = toStr (pcut x lo hi) := txt_slice x lo hi
        unfold sliceMade slicePicked
        simp only [el, eu, Option.map_none, Option.getD_none]
        refine post_val_or_str ?_
        rw [key]
        refine ⟨?_, fun t' k => h _ _ (.pushTok _) .str⟩
        have := Txt.slice_le (toStr x) lo hi
        rw [txt_slice, toStr_length] at this
        simp only [toStr_length] at this ⊢
        rw [PySem.sizeLine_eq]; omega
      · cases hp
    · rename_i l
      obtain ⟨a, vs, rfl, p, r⟩ := ha.list
      split at hp
      · rename_i hsz
        cases hp
        have p' : (s.heap.push { cls := .type "slice", data := .fields #[vl, vu, .none] }).PlainList a vs.toArray := by obtain ⟨n, p⟩ := p; exact ⟨n, Heap.get?_push_of_some _ p⟩
        refine ⟨"list", _, Heap.IsList.typeIs (s := { s with heap := _ }) p'.isList, slot_list_getitem.lookup, wpAny_getItem_list_slice p'.isList (Heap.IsSliceOf.new _ _ _ _) hl.part hu.part .none (by simp) ?_ ?_⟩
        · rw [slicePick_plain]
          have hsz : vs.toArray.size = l.length := by simp [r.length]
          have hr : Reps s.heap X (pcut l lo hi) ((vs.drop (lo.elim 0 (clipAt l.length))).take (hi.elim l.length (clipAt l.length) - lo.elim 0 (clipAt l.length))) := (r.drop _).take _
          simp only [hsz]
          have := h (.ref (s.heap.push { cls := .type "slice", data := .fields #[vl, vu, .none] }).objs.size) _ ((Grow.push (s := s) { cls := .type "slice", data := .fields #[vl, vu, .none] }).trans (.push _))
            (.newList (t.grow fun b o e => Heap.get?_push_of_some _ e) (hr.grow fun b o e => Heap.get?_push_of_some _ e))
          simpa using this
        · simp only [List.size_toArray, r.length, PySem.sizeLine_eq]; omega
      · cases hp
    · cases hp
  · cases hp
end
end Mine
end
section
open PySem PySem.W PyProof.Rows
set_option Elab.async false
namespace Mine
theorem intsAre_of {h : Heap} {X : Addr → Prop} : ∀ {l : List D} {vs : List Value} {ns : List Int}, Reps h X l vs → ints? l = some ns → IntsAre vs ns
  | [], _, _, r, e => by unfold Reps at r; subst r; unfold ints? at e; cases e; exact .nil
  | .int i :: l, _, _, r, e => by
    unfold Reps at r; obtain ⟨v, t, rfl, r1, r2⟩ := r
    unfold ints? at e
    obtain ⟨ms, he, rfl⟩ := Option.map_eq_some_iff.mp e
    unfold Rep at r1; obtain ⟨k, rfl⟩ := r1
    exact .cons _ _ (intsAre_of r2 he)
  | .none :: _, _, _, _, e | .bool _ :: _, _, _, _, e | .str _ :: _, _, _, _, e | .list _ :: _, _, _, _, e | .tup _ :: _, _, _, _, e => by unfold ints? at e; cases e
theorem strsAre_of {h : Heap} {X : Addr → Prop} : ∀ {l : List D} {vs : List Value} {xs : List (List Nat)}, Reps h X l vs → strs? l = some xs → ∃ ps : List (Str × Tok), vs = strValues ps ∧ ps.map (·.1) = xs.map toStr
  | [], _, _, r, e => by unfold Reps at r; subst r; unfold strs? at e; cases e; exact ⟨[], rfl, rfl⟩
  | .str i :: l, _, _, r, e => by
    unfold Reps at r; obtain ⟨v, t, rfl, r1, r2⟩ := r
    unfold strs? at e
    obtain ⟨ms, he, rfl⟩ := Option.map_eq_some_iff.mp e
    unfold Rep at r1; obtain ⟨k, rfl⟩ := r1
    obtain ⟨ps, h1, h2⟩ := strsAre_of r2 he
    exact ⟨(toStr i, k) :: ps, by rw [h1]; rfl, by rw [List.map_cons, h2]; rfl⟩
  | .none :: _, _, _, _, e | .bool _ :: _, _, _, _, e | .int _ :: _, _, _, _, e | .list _ :: _, _, _, _, e | .tup _ :: _, _, _, _, e => by unfold strs? at e; cases e
theorem intItems_of : ∀ {vs : List Value} {ns : List Int}, IntsAre vs ns → ∃ xs : Array (Int × Tok), vs.toArray = intItems xs ∧ xs.toList.map (·.1) = ns
  | _, _, .nil => ⟨#[], by simp [intItems], rfl⟩
  | _, _, .cons n t r => by
    obtain ⟨xs, h1, h2⟩ := intItems_of r
    refine ⟨#[(n, t)] ++ xs, ?_, ?_⟩
    · unfold intItems at h1 ⊢
      rw [Array.map_append, ← h1]
      simp
    · simp [h2]
theorem join_flat : ∀ (xs : List (List Nat)), Str.join ⟨#[]⟩ (xs.map toStr) = toStr xs.flatten
  | [] => rfl
  | x :: r => by
    rw [List.map_cons, PyProof.Rows.join_nil_cons, join_flat r, toStr_append, List.flatten_cons]
theorem intsAre_reps {h : Heap} {X : Addr → Prop} : ∀ {vs : List Value} {ns : List Int}, IntsAre vs ns → Reps h X (ns.map .int) vs
  | _, _, .nil => .nil
  | _, _, .cons n t r => .cons .int (intsAre_reps r)
theorem toStr_beq (x y : List Nat) : (toStr x == toStr y) = (x == y) := beq_arr x y
theorem countIn_eq (y : List Nat) : ∀ (xs : List (List Nat)), Spec.countIn (PyData.str (toStr y)) ((xs.map toStr).map PyData.str) = xs.count y
  | [] => rfl
  | x :: r => by
    rw [List.map_cons, List.map_cons]
    unfold Spec.countIn
    rw [countIn_eq y r, List.count_cons]
    show (if (toStr x == toStr y) = true then (1 : Int) else 0) + _ = _
    rw [toStr_beq]
    cases x == y <;> simp <;> omega
theorem layable_ints (ns : List Int) (h : (ns.all fun i => decide (i.natAbs < 1000000)) = true) (hl : ns.length ≤ 60) : (PyData.list (ns.map .int)).layable0 = true := by
  have hw : ∀ (ns : List Int), (ns.all fun i => decide (i.natAbs < 1000000)) = true → PyData.weightAll (ns.map .int) ≤ 100 * ns.length := by
    intro ns
    induction ns with
    | nil => intro _; simp [PyData.weightAll]
    | cons i r ih =>
      intro h
      simp only [List.all_cons, Bool.and_eq_true, decide_eq_true_eq] at h
      have h2 := ih h.2
      simp only [List.map_cons, PyData.weightAll, PyData.weight, List.length_cons]
      have hb : (if (i == 0) = true then 0 else i.natAbs.log2 + 1) ≤ 21 := by
        split
        · omega
        · have : i.natAbs.log2 < 20 := (Nat.log2_lt (by rename_i q; simpa using q)).mpr (by omega)
          omega
      omega
  show (PyData.canLay0 (.list (ns.map .int)) && decide (PyData.depth (.list (ns.map .int)) ≤ 64) && decide (PyData.weight (.list (ns.map .int)) ≤ 2 ^ 20)) = true
  rw [Bool.and_eq_true, Bool.and_eq_true]
  refine ⟨⟨?_, ?_⟩, decide_eq_true ?_⟩
  · simp only [PyData.canLay0, canLayAll_ints]
  · simp only [PyData.depth, PyProof.Rows.depthAll_ints]; decide
  · have := hw ns h
    simp only [PyData.weight]
    omega
inductive Weaks (h : Heap) (X : Addr → Prop) : List D → List Value → Prop
  | nil : Weaks h X [] []
  | cons {d v ds vs} : Weak h X d v → Weaks h X ds vs → Weaks h X (d :: ds) (v :: vs)
section
variable {prog : Program} {w : World} {A : Around} {E : Value → Shared → Prop} {s : Shared} {X : Addr → Prop} {Q : Value → Shared → Prop}
theorem want_intAt {i : Int} (h : Wants s X (.int i) Q) (t k : Nat) : Q (.int i t) { s with toks := k } := h _ _ .tok .int
theorem builtin_ok {f : Str} {ds : List D} {vs : List Value} {d : D} {v : Value} (hh : A.handled = none) (t : There X s.heap) (hp : pbuiltin f ds = some d) (hv : bootBuiltins f = some v)
    (hr : Weaks s.heap X ds vs) (h : Wants s X d Q) : wpAny (model prog w) A (call v vs) Q E s := by
  unfold pbuiltin at hp
  split at hp
  · rename_i hf
    obtain rfl : f = "len" := eq_of_beq hf
    obtain rfl : v = .builtin "len" := by
      have e : bootBuiltins "len" = some (.builtin "len") := by decide +kernel
      rw [e] at hv; cases hv; rfl
    split at hp
    · split at hp
      · cases hp
        cases hr with
        | cons h1 hr => cases hr; obtain ⟨u, rfl⟩ := h1.str
                        refine P.len_str (by rw [toStr_length]; omega) ?_
                        rw [toStr_length]; exact want_intAt h _ _
      · cases hp
    · split at hp
      · cases hp
        cases hr with
        | cons h1 hr => cases hr; obtain ⟨a, ws, rfl, p, r⟩ := h1.list
                        refine Calls.call_len_list p.isList (by rw [List.size_toArray, r.length]; omega) ?_
                        rw [List.size_toArray, r.length]; exact want_intAt h _ _
      · cases hp
    · cases hp
  split at hp
  · rename_i hf
    obtain rfl : f = "ord" := eq_of_beq hf
    obtain rfl : v = .builtin "ord" := by
      have e : bootBuiltins "ord" = some (.builtin "ord") := by decide +kernel
      rw [e] at hv; cases hv; rfl
    split at hp
    · cases hp
      cases hr with
      | cons h1 hr => cases hr; obtain ⟨u, rfl⟩ := h1.str
                      exact P.ord_of_char (want_int h)
    · cases hp
  split at hp
  · rename_i hf
    obtain rfl : f = "chr" := eq_of_beq hf
    obtain rfl : v = .builtin "chr" := by
      have e : bootBuiltins "chr" = some (.builtin "chr") := by decide +kernel
      rw [e] at hv; cases hv; rfl
    split at hp
    · split at hp
      · rename_i hc
        cases hp
        simp only [Bool.and_eq_true, decide_eq_true_eq] at hc
        cases hr with
        | cons h1 hr => cases hr; obtain ⟨u, rfl⟩ := h1.int
                        refine P.chr_of_int ?_ (want_str h _ _)
                        simp only [Bool.or_eq_false_iff, decide_eq_false_iff_not]; omega
      · cases hp
    · cases hp
  split at hp
  · rename_i hf
    obtain rfl : f = "sum" := eq_of_beq hf
    obtain rfl : v = .builtin "sum" := by
      have e : bootBuiltins "sum" = some (.builtin "sum") := by decide +kernel
      rw [e] at hv; cases hv; rfl
    split at hp
    · split at hp
      · obtain ⟨ns, hn, rfl⟩ := Option.map_eq_some_iff.mp hp
        cases hr with
        | cons h1 hr =>
          cases hr
          obtain ⟨a, ws, rfl, p, r⟩ := h1.list
          obtain ⟨xs, hx, hm⟩ := intItems_of (intsAre_of r hn)
          refine sum_intListG hh (hx ▸ p.isList) fun h' tk t' hk => ?_
          rw [preSum_eq, hm]
          have : ns.take xs.size = ns := List.take_of_length_le (by rw [← hm, List.length_map, Array.length_toList]; exact Nat.le_refl _)
          rw [this]
          exact h _ _ (.of hk) .int
      · cases hp
    · cases hp
  split at hp
  · rename_i hf
    obtain rfl : f = "sorted" := eq_of_beq hf
    obtain rfl : v = .builtin "sorted" := by
      have e : bootBuiltins "sorted" = some (.builtin "sorted") := by decide +kernel
      rw [e] at hv; cases hv; rfl
    split at hp
    · split at hp
      · rename_i l hsz
        obtain ⟨ns, hn, hp⟩ := Option.bind_eq_some_iff.mp hp
        split at hp
        · cases hp
          cases hr with
          | cons h1 hr =>
            cases hr
            obtain ⟨a, ws, rfl, p, r⟩ := h1.list
            refine PyProof.Rows.sorted_ints p.isList (intsAre_of r hn) (Nat.lt_of_le_of_lt (Nat.le_of_eq r.length) (by omega)) fun out ns' a1 a2 a3 => ?_
            obtain ⟨e, he⟩ := sortedAll_at s.heap ws out
            have hns : ns' = ns.mergeSort (· ≤ ·) := by
              refine lks_uniq (a2.trans (List.mergeSort_perm ns _).symm) a3 ?_
              have := List.pairwise_mergeSort (le := fun (a b : Int) => decide (a ≤ b)) (by intro a b c; simp only [decide_eq_true_eq]; omega) (by intro a b; simp only [Bool.or_eq_true, decide_eq_true_eq]; omega) ns
              simpa using this
            rw [← hns] at h
            refine h _ _ ⟨fun _ _ => sortedAll_old, rfl, rfl, rfl⟩ ?_
            unfold Rep
            refine ⟨_, out.toList, rfl, ?_, ⟨e, by simpa [seqObj] using he⟩, intsAre_reps a1⟩
            intro hx
            have := t _ hx
            cases hq : s.heap.get? (s.heap.objs.size + 1) with
            | none => rw [hq] at this; cases this
            | some o => exact absurd (Heap.lt_size hq) (Nat.not_lt.mpr (Nat.le_succ _))
        · cases hp
      · cases hp
    · cases hp
  · cases hp
theorem meth_ok {m : Str} {o : D} {ds : List D} {vs : List Value} {d : D} {vo : Value} (t : There X s.heap) (hp : pmeth m o ds = some d) (ho : Weak s.heap X o vo) (hr : Weaks s.heap X ds vs) (h : Wants s X d Q) :
    ∃ T id, s.TypeIs vo T ∧ Slot T m id ∧ PlainAttrs T ∧ typeOf (.builtin id) = pure (.type "method_descriptor") ∧ (∀ a, vo = .ref a → ∃ ob, s.heap.get? a = some ob ∧ ob.dict = none) ∧
      wpAny (model prog w) A (call (.builtin id) (vo :: vs)) Q E s := by
  unfold pmeth at hp
  split at hp
  · rename_i x l
    split at hp
    · rename_i hm
      obtain rfl : m = "join" := eq_of_beq hm
      obtain ⟨t0, rfl⟩ := ho.str
      split at hp
      · rename_i xs hx
        split at hp
        · rename_i hc
          cases hp
          simp only [Bool.and_eq_true, decide_eq_true_eq, List.isEmpty_iff] at hc
          obtain ⟨rfl, hlen⟩ := hc
          cases hr with
          | cons h1 hr =>
            cases hr
            obtain ⟨a, ws, rfl, p, r⟩ := h1.list
            obtain ⟨ps, rfl, hps⟩ := strsAre_of r hx
            refine ⟨"str", "str.join", typeIs_str _ _ _, F.slot_str_join, F.plainAttrs_str, F.type_str_join, fun _ e => (nomatch e), ?_⟩
            refine SC.join p.isList hps ?_ ?_
            · rw [← hps]
              refine PyProof.Rows.joinOk_of_weight ?_ (by simp [toStr, Str.length])
              have e1 : ((ps.map (·.1)).map (·.length)).sum = xs.flatten.length := by
                rw [hps, List.map_map, List.length_flatten]
                exact congrArg List.sum (List.map_congr_left fun x _ => toStr_length x)
              have e2 : (ps.map (·.1)).length = xs.length := by rw [hps, List.length_map]
              rw [e1, e2]; omega
            · intro t' k
              have e : Txt.join (toStr []) (xs.map toStr) = toStr xs.flatten := by
                unfold Txt.join
                rw [StrLaws.glued_eq_join]
                exact join_flat xs
              rw [e]
              exact want_str h t' k
        · cases hp
      · cases hp
    · cases hp
  · rename_i x y
    obtain ⟨t0, rfl⟩ := ho.str
    cases hr with
    | cons h1 hr =>
      cases hr
      obtain ⟨u, rfl⟩ := h1.str
      split at hp
      · rename_i hm
        obtain rfl : m = "index" := eq_of_beq hm
        split at hp
        · rename_i i rest ho
          cases hp
          exact ⟨"str", "str.index", typeIs_str _ _ _, F.slot_str_index, F.plainAttrs_str, F.type_str_index, fun _ e => (nomatch e), SC.index ho (want_int h)⟩
        · cases hp
      split at hp
      · rename_i hm
        obtain rfl : m = "split" := eq_of_beq hm
        split at hp
        · rename_i hc
          cases hp
          simp only [Bool.and_eq_true, decide_eq_true_eq, Bool.not_eq_true'] at hc
          have hy : ((toStr y).length == 0) = false := by
            rw [toStr_length]
            cases y with
            | nil => simp at hc
            | cons => simp
          refine ⟨"str", "str.split", typeIs_str _ _ _, F.slot_str_split, F.plainAttrs_str, F.type_str_split, fun _ e => (nomatch e), ?_⟩
          have key : ∀ (ps : List (Str × Tok)) (k : Nat), ps.map (·.1) = Txt.split (toStr x) (toStr y) → Q (.ref s.heap.objs.size) { s with toks := k, heap := s.heap.push { cls := .type "list", data := .seq (strValues ps).toArray } } := by
            intro ps k e
            refine h _ _ (.pushTok _) ?_
            rw [← e, List.map_map]
            refine .newList t ?_
            clear e
            induction ps with
            | nil => exact .nil
            | cons p ps ih => exact .cons .strOf ih
          cases h1 : (decide ((toStr x).length < (toStr y).length) || decide (Builtin.Str.strKind (toStr x) < Builtin.Str.strKind (toStr y)))
          · cases hf : (Builtin.Str.occurrences (toStr x) (toStr y) 0 (toStr x).length ((toStr x).length + 1)).isEmpty
            · refine call_meets F.slot_str_split (typeIs_str _ _ _) F.entry_str_split (F.args_str_split_2 _ _) (meets_str_split_sep _ _ t0 u h1 hy hf (by rw [toStr_length, PySem.sizeLine_eq]; omega) ?_) ?_
              · rw [length_partsBetween]
                have := StrLaws.occ_length_le (toStr x) (toStr y) 0 (toStr x).length ((toStr x).length + 1)
                rw [toStr_length] at this ⊢
                rw [PySem.sizeLine_eq]; omega
              · show wants Q E _ { s with toks := _, heap := s.heap.push { cls := .type "list", data := .seq (strsFrom s.toks (Builtin.Str.partsBetween (toStr x) (Builtin.Str.occurrences (toStr x) (toStr y) 0 (toStr x).length ((toStr x).length + 1)) (toStr y).length)).toArray } }
                rw [strsFrom_eq]
                exact key (numbered s.toks _) _ ((numbered_texts _ _).trans ((if_neg (ne_true_of_eq_false h1)).trans (if_neg (ne_true_of_eq_false hf))).symm)
            · exact call_meets F.slot_str_split (typeIs_str _ _ _) F.entry_str_split (F.args_str_split_2 _ _) (meets_str_split_not_found _ _ t0 u h1 hy hf)
                (key [(toStr x, t0)] s.toks ((if_neg (ne_true_of_eq_false h1)).trans (if_pos hf)).symm)
          · exact call_meets F.slot_str_split (typeIs_str _ _ _) F.entry_str_split (F.args_str_split_2 _ _) (meets_str_split_cannot_occur _ _ t0 u h1)
              (key [(toStr x, t0)] s.toks (if_pos h1).symm)
        · cases hp
      · cases hp
  · rename_i l y
    obtain ⟨a, ws, rfl, p, r⟩ := ho.list
    split at hp
    · rename_i hm
      obtain rfl : m = "count" := eq_of_beq hm
      split at hp
      · obtain ⟨xs, hx, rfl⟩ := Option.map_eq_some_iff.mp hp
        cases hr with
        | cons h1 hr =>
          cases hr
          obtain ⟨u, rfl⟩ := h1.str
          obtain ⟨ps, rfl, hps⟩ := strsAre_of r hx
          refine ⟨"list", "list.count", p.isList.typeIs, F.slot_list_count, F.plainAttrs_list, F.type_list_count, fun b e => by cases e; obtain ⟨n, p⟩ := p; exact ⟨_, p, rfl⟩, PyProof.Rows.count_list_strs p.isList (hps ▸ PyProof.Rows.strsAre_of_values ps) ?_⟩
          have e : Spec.countIn (PyData.str (toStr y)) ((xs.map toStr).map PyData.str) = xs.count y := countIn_eq y xs
          rw [e]
          exact want_int h
      · cases hp
    · cases hp
  · rename_i l i
    obtain ⟨a, ws, rfl, p, r⟩ := ho.list
    split at hp
    · rename_i hm
      obtain rfl : m = "index" := eq_of_beq hm
      split at hp
      · rename_i hsz
        obtain ⟨ns, hn, hp⟩ := Option.bind_eq_some_iff.mp hp
        split at hp
        · rename_i hc
          cases hp
          simp only [Bool.and_eq_true, List.contains_iff_mem] at hc
          cases hr with
          | cons h1 hr =>
            cases hr
            obtain ⟨u, rfl⟩ := h1.int
            refine ⟨"list", "list.index", p.isList.typeIs, F.slot_list_index, F.plainAttrs_list, F.type_list_index, fun b e => by cases e; obtain ⟨n, p⟩ := p; exact ⟨_, p, rfl⟩, PyProof.Rows.index_list_ints p.isList (intsAre_of r hn) ?_ hc.1 (want_int h)⟩
            exact layable_ints _ hc.2 (by have := (intsAre_of r hn).length; have := r.length; omega)
        · cases hp
      · cases hp
    · cases hp
  · cases hp
end
end Mine
end
section
open PySem PySem.W PyProof.Rows
set_option Elab.async false
namespace Mine
theorem Grow.toksOf {s : Shared} {M : Model} {A : Around} {α : Type} {t : Sem α} {Q : α → Shared → Prop} {E : Value → Shared → Prop}
    (h : wpAny M A t (fun a s' => s.toks ≤ s'.toks → Q a s') E s) : wpAny M A t Q E s :=
  wpAny_with_toks (Nat.le_refl _) (wpAny_mono h (fun _ _ x => x) fun _ _ x _ => x)
noncomputable def Look (env : Env) (h : Heap) (x : Str) (v : Value) : Prop :=
  (env.kindOf x = some .local ∧ ∃ m, h.Ns env.locals m ∧ m x = some v) ∨
  ((env.kindOf x = some .cell ∨ env.kindOf x = some .free) ∧ ∃ c, env.cells.lookup x = some c ∧ h.IsCell c (some v))
theorem isCell_det {h : Heap} {c : Addr} {v w : Option Value} (a : h.IsCell c v) (b : h.IsCell c w) : v = w := by
  obtain ⟨o, ho, hd⟩ := a
  obtain ⟨o', ho', hd'⟩ := b
  rw [ho] at ho'; cases ho'
  rw [hd] at hd'; cases hd'; rfl
theorem Look.det {env : Env} {h : Heap} {x : Str} {v w : Value} (a : Look env h x v) (b : Look env h x w) : v = w := by
  rcases a with ⟨k, m, n, e⟩ | ⟨k, c, e, i⟩ <;> rcases b with ⟨k', m', n', e'⟩ | ⟨k', c', e', i'⟩
  · have := n.agree n' x
    rw [e, e'] at this; cases this; rfl
  · rw [k] at k'; rcases k' with k' | k' <;> cases k'
  · rw [k'] at k; rcases k with k | k <;> cases k
  · rw [e] at e'; cases e'
    have := isCell_det i i'; cases this; rfl
theorem Look.kept {env : Env} {h h' : Heap} {x : Str} {v : Value} (a : Look env h x v) (g : Grown h h') : Look env h' x v := by
  rcases a with ⟨k, m, n, e⟩ | ⟨k, c, e, i⟩
  · exact .inl ⟨k, m, n.keeps g, e⟩
  · exact .inr ⟨k, c, e, i.keeps g⟩
structure GOk (mg mb : Str → Option Value) (fns : List (Str × Addr × Obj)) (h : Heap) : Prop where
  g : h.Ns mainGlobals mg
  b : h.Ns builtinsNs mb
  nolimit : h.NoLimit
  fn : ∀ x ∈ fns, h.get? x.2.1 = some x.2.2
theorem GOk.grow {mg mb : Str → Option Value} {fns : List (Str × Addr × Obj)} {h h' : Heap} (G : GOk mg mb fns h) (k : Grown h h') : GOk mg mb fns h' :=
  ⟨G.g.keeps k, G.b.keeps k, G.nolimit.keeps k, fun x hx => k _ _ (G.fn x hx)⟩
structure St (sc : List (Str × NameKind)) (env : Env) (tg : Str → Prop) (base : Shared) (X M : Addr → Prop) (ρ : PEnv) (s : Shared) : Prop where
  kind : env.scope.kind = .function
  globals : env.globals = mainGlobals
  builtins : env.builtins = builtinsNs
  names : ∀ x k, sc.lookup x = some k → env.kindOf x = some k ∨ (k = .free ∧ env.kindOf x = some .cell)
  plain : ∀ x k, sc.lookup x = some k → (x == ("__debug__" : Str)) = false ∧ (x == ("__classdict__" : Str)) = false
  known : ∀ x o d, ρ.lookup x = some (o, d) → ∃ k, sc.lookup x = some k
  caps : ∀ x k, sc.lookup x = some k → (k = .cell ∨ k = .free) → ∃ c, env.cells.lookup x = some c
  ns : ∃ m, s.heap.Ns env.locals m
  vars : ∀ x o d, ρ.lookup x = some (o, d) → ∃ v, Look env s.heap x v ∧ Weak s.heap X d v ∧ (o = false → Rep s.heap X d v) ∧ (o = true → ∃ a l, v = .ref a ∧ (tg x → M a) ∧ (¬ tg x → (base.heap.get? a).isSome) ∧ d = .list l)
  apart : ∀ x y dx dy vx vy, ρ.lookup x = some (true, dx) → ρ.lookup y = some (true, dy) → Look env s.heap x vx → Look env s.heap y vy → x ≠ y → vx ≠ vy
  mx : ∀ a, M a → X a
  there : There X s.heap
  mine : ∀ a, M a → base.heap.get? a = none
  keep : Grown base.heap s.heap
  locM : M env.locals
  cells : ∀ x c, env.cells.lookup x = some c → ∃ v, s.heap.IsCell c v
  cellApart : ∀ x y c, env.cells.lookup x = some c → env.cells.lookup y = some c → x = y
  cellX : ∀ x c, env.cells.lookup x = some c → X c
  own : ∀ x, tg x → env.kindOf x = some .local ∨ (env.kindOf x = some .cell ∧ ∃ c, env.cells.lookup x = some c ∧ M c)
  gens : s.gens = base.gens
  drawn : s.drawn = base.drawn
  os : s.os = base.os
  toks : 0 < s.toks
section
variable {sc : List (Str × NameKind)} {env : Env} {tg : Str → Prop} {base s s' : Shared} {X M : Addr → Prop} {ρ : PEnv}
theorem St.grow (S : St sc env tg base X M ρ s) (g : Grow s s') (t : s.toks ≤ s'.toks) : St sc env tg base X M ρ s' where
  kind := S.kind
  globals := S.globals
  builtins := S.builtins
  names := S.names
  plain := S.plain
  known := S.known
  caps := S.caps
  ns := let ⟨m, n⟩ := S.ns; ⟨m, n.keeps g.heap⟩
  vars := fun x o d e => let ⟨v, a, b, c, f⟩ := S.vars x o d e; ⟨v, a.kept g.heap, b.grow g.heap, fun q => (c q).grow g.heap, f⟩
  apart := fun x y dx dy vx vy ex ey lx ly hne => by
    obtain ⟨v, a, _⟩ := S.vars x _ _ ex
    obtain ⟨u, b, _⟩ := S.vars y _ _ ey
    have e1 := (a.kept g.heap).det lx
    have e2 := (b.kept g.heap).det ly
    subst e1 e2
    exact S.apart x y dx dy _ _ ex ey a b hne
  mx := S.mx
  there := S.there.grow g.heap
  mine := S.mine
  keep := fun b o e => g.heap b o (S.keep b o e)
  locM := S.locM
  cells := fun x c e => let ⟨v, i⟩ := S.cells x c e; ⟨v, i.keeps g.heap⟩
  cellApart := S.cellApart
  cellX := S.cellX
  own := S.own
  gens := g.gens.trans S.gens
  drawn := g.drawn.trans S.drawn
  os := g.os.trans S.os
  toks := Nat.lt_of_lt_of_le S.toks t
theorem PEnv.lookup_set (ρ : PEnv) (x y : Str) (u : Bool × D) : (ρ.set x u).lookup y = if y = x then some u else ρ.lookup y := by
  induction ρ with
  | nil =>
    unfold PEnv.set
    rw [List.lookup_cons, List.lookup_nil]
    by_cases h : y = x
    · rw [if_pos h, beq_iff_eq.mpr h]
    · rw [if_neg h, beq_eq_false_iff_ne.mpr h]
  | cons p r ih =>
    obtain ⟨z, w⟩ := p
    unfold PEnv.set
    by_cases hz : z = x
    · subst hz
      rw [if_pos (beq_self_eq_true z), List.lookup_cons, List.lookup_cons]
      by_cases h : y = z
      · rw [if_pos h, beq_iff_eq.mpr h]
      · rw [if_neg h, beq_eq_false_iff_ne.mpr h]
    · rw [if_neg (by simpa using hz), List.lookup_cons, ih, List.lookup_cons]
      by_cases h : y = z
      · have hx : y ≠ x := fun q => hz (h.symm.trans q)
        simp only [if_neg hx, beq_iff_eq.mpr h]
      · rw [beq_eq_false_iff_ne.mpr h]
structure Step (X M : Addr → Prop) (s : Shared) (X' M' : Addr → Prop) (s' : Shared) : Prop where
  kept : ∀ b o, ¬ M b → s.heap.get? b = some o → s'.heap.get? b = some o
  xfree : ∀ b, (s.heap.get? b).isSome → X' b → X b
  mfree : ∀ b, (s.heap.get? b).isSome → M' b → M b
  xkeep : ∀ b, X b → ¬ M b → X' b
  gone : ∀ b, (s.heap.get? b).isSome → (s'.heap.get? b).isSome
  toks : s.toks ≤ s'.toks
theorem Step.refl : Step X M s X M s := ⟨fun _ _ _ e => e, fun _ _ x => x, fun _ _ x => x, fun _ x _ => x, fun _ x => x, Nat.le_refl _⟩
theorem Step.trans {X' M' X'' M'' : Addr → Prop} {s'' : Shared} (a : Step X M s X' M' s') (b : Step X' M' s' X'' M'' s'') (there : There X s.heap) : Step X M s X'' M'' s'' where
  kept := fun c o h e => b.kept c o (fun m => h (a.mfree c (by rw [e]; rfl) m)) (a.kept c o h e)
  xfree := fun c h x => a.xfree c h (b.xfree c (a.gone c h) x)
  mfree := fun c h x => a.mfree c h (b.mfree c (a.gone c h) x)
  xkeep := fun c x m => by
    have hs := there c x
    exact b.xkeep c (a.xkeep c x m) fun m' => m (a.mfree c hs m')
  gone := fun c h => b.gone c (a.gone c h)
  toks := Nat.le_trans a.toks b.toks
theorem Step.ofGrow (g : Grow s s') (t : s.toks ≤ s'.toks) : Step X M s X M s' :=
  ⟨fun b o _ e => g.heap b o e, fun _ _ x => x, fun _ _ x => x, fun _ x _ => x, fun b h => by obtain ⟨o, e⟩ := Option.isSome_iff_exists.mp h; rw [g.heap b o e]; rfl, t⟩
theorem Step.move {X' M' : Addr → Prop} (a : Step X M s X' M' s') (mx : ∀ b, M b → X b) : Move s.heap s'.heap X X' :=
  ⟨fun b o h e => a.kept b o (fun m => h (mx b m)) e, a.xfree⟩
theorem Rep.upd {h h' : Heap} {Y : Addr → Prop} {a : Addr} (hx : Y a) (hs : Heap.SameBut a h h') {d : D} {v : Value} (r : Rep h Y d v) : Rep h' Y d v :=
  r.move ⟨fun b o hb e => (hs.2 b (fun q => hb (q ▸ hx))).trans e, fun _ _ y => y⟩
theorem Reps.upd {h h' : Heap} {Y : Addr → Prop} {a : Addr} (hx : Y a) (hs : Heap.SameBut a h h') {d : List D} {v : List Value} (r : Reps h Y d v) : Reps h' Y d v :=
  r.move ⟨fun b o hb e => (hs.2 b (fun q => hb (q ▸ hx))).trans e, fun _ _ y => y⟩
theorem Weak.upd {h h' : Heap} {Y : Addr → Prop} {a : Addr} (hx : Y a) (hs : Heap.SameBut a h h') (hn : ∀ it, ¬ h.PlainList a it) {d : D} {v : Value} (r : Weak h Y d v) : Weak h' Y d v := by
  cases d <;> try exact Rep.upd hx hs r
  obtain ⟨b, vs, e, p, q⟩ := r
  refine ⟨b, vs, e, ?_, q.upd hx hs⟩
  have hne : b ≠ a := fun q => hn _ (q ▸ p)
  obtain ⟨n, p⟩ := p
  exact ⟨n, (hs.2 b hne).trans p⟩
theorem ns_not_list {h : Heap} {a : Addr} {m : Str → Option Value} (n : h.Ns a m) (it : Array Value) : ¬ h.PlainList a it := by
  rintro ⟨k, p⟩
  obtain ⟨o, es, ep, ho, hd, _⟩ := n
  rw [p] at ho; cases ho; cases hd
theorem cell_not_list {h : Heap} {a : Addr} {v : Option Value} (n : h.IsCell a v) (it : Array Value) : ¬ h.PlainList a it := by
  rintro ⟨k, p⟩
  obtain ⟨o, ho, hd⟩ := n
  rw [p] at ho; cases ho; cases hd
theorem ns_not_cell {h : Heap} {a : Addr} {m : Str → Option Value} {v : Option Value} (n : h.Ns a m) (c : h.IsCell a v) : False := by
  obtain ⟨o, es, ep, ho, hd, _⟩ := n
  obtain ⟨o', ho', hd'⟩ := c
  rw [ho] at ho'; cases ho'
  rw [hd] at hd'; cases hd'
theorem St.assign (S : St sc env tg base X M ρ s) {x : Str} {v : Value} {d : D} {o : Bool} (htg : tg x) (hsc : ∃ k, sc.lookup x = some k) (hw : Weak s.heap X d v) (hr : o = false → Rep s.heap X d v)
    (ho : o = true → ∃ a l, v = .ref a ∧ M a ∧ d = .list l ∧ ∀ y dy vy, ρ.lookup y = some (true, dy) → y ≠ x → Look env s.heap y vy → vy ≠ v)
    {prog : Program} {w : World} {A : Around} {E : Value → Shared → Prop} {Q : Unit → Shared → Prop}
    (hQ : ∀ s', St sc env tg base X M (ρ.set x (o, d)) s' → Step X M s X M s' → Look env s'.heap x v → Q () s') : wpAny (model prog w) A (storeName env x v) Q E s := by
  refine Grow.toksOf ?_
  have hp : (env.scope.kind == .class || (env.scope.kind == .module && env.locals != env.globals)) = false := by rw [S.kind]; rfl
  have fin : ∀ (a : Addr) (h' : Heap) (k : Nat), M a → (∀ it, ¬ s.heap.PlainList a it) → Heap.SameBut a s.heap h' → s.toks ≤ k → (s.heap.get? a).isSome → (h'.get? a).isSome → (∃ m, h'.Ns env.locals m) → (∀ y c, env.cells.lookup y = some c → ∃ v, h'.IsCell c v) →
      Look env h' x v → (∀ y u, y ≠ x → Look env s.heap y u → Look env h' y u) → Q () { s with heap := h', toks := k } := by
    intro a h' k hM hnl hs hk ha ha' hns hcells hlook hother
    have hX : X a := S.mx a hM
    have kn : ∀ y o' d', (ρ.set x (o, d)).lookup y = some (o', d') → ∃ k, sc.lookup y = some k := by
      intro y o' d' e
      rw [PEnv.lookup_set] at e
      by_cases hy : y = x
      · exact hy ▸ hsc
      · rw [if_neg hy] at e; exact S.known y o' d' e
    refine hQ _ ?_ ?_ hlook
    · refine ⟨S.kind, S.globals, S.builtins, S.names, S.plain, kn, S.caps, hns, ?_, ?_, S.mx, ?_, S.mine, ?_, S.locM, hcells, S.cellApart, S.cellX, S.own, S.gens, S.drawn, S.os, Nat.lt_of_lt_of_le S.toks hk⟩
      · intro y o' d' e
        rw [PEnv.lookup_set] at e
        by_cases hy : y = x
        · subst hy
          rw [if_pos rfl] at e
          cases e
          exact ⟨v, hlook, hw.upd hX hs hnl, fun q => (hr q).upd hX hs, fun q => let ⟨a, l, e1, e2, e3, _⟩ := ho q; ⟨a, l, e1, fun _ => e2, fun h => (h htg).elim, e3⟩⟩
        · rw [if_neg hy] at e
          obtain ⟨u, a1, a2, a3, a4⟩ := S.vars y o' d' e
          exact ⟨u, hother y u hy a1, a2.upd hX hs hnl, fun q => (a3 q).upd hX hs, a4⟩
      · intro y z dy dz vy vz ey ez ly lz hne
        rw [PEnv.lookup_set] at ey ez
        by_cases hy : y = x
        · rw [if_pos hy] at ey
          have hz : z ≠ x := fun q => hne (hy.trans q.symm)
          rw [if_neg hz] at ez
          cases ey
          subst hy
          obtain ⟨u, b1, _⟩ := S.vars z _ _ ez
          have e1 := (hother z u hz b1).det lz
          have e2 := hlook.det ly
          subst e1 e2
          obtain ⟨_, _, _, _, _, hh⟩ := ho rfl
          exact fun q => hh z dz _ ez hz b1 q.symm
        · rw [if_neg hy] at ey
          obtain ⟨u, b1, _⟩ := S.vars y _ _ ey
          have e1 := (hother y u hy b1).det ly
          subst e1
          by_cases hz : z = x
          · rw [if_pos hz] at ez
            cases ez
            subst hz
            have e2 := hlook.det lz
            subst e2
            obtain ⟨_, _, _, _, _, hh⟩ := ho rfl
            exact hh y dy _ ey hy b1
          · rw [if_neg hz] at ez
            obtain ⟨u', b2, _⟩ := S.vars z _ _ ez
            have e2 := (hother z u' hz b2).det lz
            subst e2
            exact S.apart y z dy dz _ _ ey ez b1 b2 hne
      · intro b hb
        by_cases q : b = a
        · subst q; exact ha'
        · show (h'.get? b).isSome
          rw [hs.2 b q]; exact S.there b hb
      · intro b o e
        have : b ≠ a := fun q => by have := S.mine a hM; rw [← q, e] at this; cases this
        exact (hs.2 b this).trans (S.keep b o e)
    · refine ⟨fun b o hb e => (hs.2 b (fun q => hb (q ▸ hM))).trans e, fun _ _ y => y, fun _ _ y => y, fun _ y _ => y, fun b hb => ?_, hk⟩
      by_cases q : b = a
      · subst q; exact ha'
      · show (h'.get? b).isSome
        rw [hs.2 b q]; exact hb
  obtain ⟨m, hn⟩ := S.ns
  rcases S.own x htg with hl | ⟨hl, c, hc, hMc⟩
  · refine wpAny_storeName_local hl hn (fun h' hn' hs hk => ?_) hp
    have hsome : ∀ {h : Heap} {m : Str → Option Value}, h.Ns env.locals m → (h.get? env.locals).isSome := fun n => by obtain ⟨o, _, _, e, _⟩ := n; rw [e]; rfl
    refine fin env.locals h' _ S.locM (ns_not_list hn) hs hk (hsome hn) (hsome hn') ⟨_, hn'⟩ (fun y c e => ?_) (.inl ⟨hl, _, hn', by simp⟩) (fun y u hy q => ?_)
    · obtain ⟨v, i⟩ := S.cells y c e
      exact ⟨v, i.sameBut hs fun q => ns_not_cell hn (q ▸ i)⟩
    · rcases q with ⟨k, m', n, e⟩ | ⟨k, c, e, i⟩
      · refine .inl ⟨k, _, hn', ?_⟩
        simp only [hy, if_false]
        rw [← n.agree hn y]; exact e
      · exact .inr ⟨k, c, e, i.sameBut hs fun q => ns_not_cell hn (q ▸ i)⟩
  · obtain ⟨v₀, i⟩ := S.cells x c hc
    refine wpAny_storeName_cell S.kind hl hc i fun h' i' hs hk => ?_
    have hsome : ∀ {h : Heap} {v : Option Value}, h.IsCell c v → (h.get? c).isSome := fun n => by obtain ⟨o, e, _⟩ := n; rw [e]; rfl
    refine fin c h' _ hMc (cell_not_list i) hs hk (hsome i) (hsome i') ⟨m, hn.sameBut hs fun q => ns_not_cell hn (q ▸ i)⟩ (fun y c' e => ?_) (.inr ⟨.inl hl, c, hc, i'⟩) (fun y u hy q => ?_)
    · by_cases q : c' = c
      · subst q; exact ⟨_, i'⟩
      · obtain ⟨v, j⟩ := S.cells y c' e
        exact ⟨v, j.sameBut hs q⟩
    · rcases q with ⟨k, m', n, e⟩ | ⟨k, c', e, j⟩
      · exact .inl ⟨k, m', n.sameBut hs (fun q => ns_not_cell hn (q ▸ i)), e⟩
      · exact .inr ⟨k, c', e, j.sameBut hs fun q => hy (S.cellApart y x c (q ▸ e) hc)⟩
end
end Mine
end
section
open PySem PySem.W PyProof.Rows
set_option Elab.async false
namespace Mine
structure Room (A : Around) (n : Nat) : Prop where
  handled : A.handled = none
  depth : A.depth + n < recursionLimit
  units : A.units + 3 * n + 41 < cLine
noncomputable def FunOk (prog : Program) (w : World) (mg mb : Str → Option Value) (fns : List (Str × Addr × Obj)) (n : Nat) (v : Value) (F : List D → Option D) : Prop :=
  ∀ (A : Around) (E : Value → Shared → Prop) (s : Shared) (X : Addr → Prop) (ds : List D) (vs : List Value) (d : D) (Q : Value → Shared → Prop), Room A n → GOk mg mb fns s.heap → There X s.heap → 0 < s.toks →
    Reps s.heap X ds vs → F ds = some d → Wants s X d Q → wpAny (model prog w) A (call v vs) Q E s
structure World0 (prog : Program) (w : World) (mg mb : Str → Option Value) (fns : List (Str × Addr × Obj)) (G : List (Str × (List D → Option D))) (n : Nat) : Prop where
  fn : ∀ x F, G.lookup x = some F → ∃ a o fd, mg x = some (.ref a) ∧ (x, a, o) ∈ fns ∧ o.data = .func fd ∧ FunOk prog w mg mb fns n (.ref a) F
  boot : ∀ x ∈ (["len", "ord", "chr", "sum", "sorted", "range"] : List Str), mg x = none ∧ mb x = bootBuiltins x
noncomputable abbrev Want (s : Shared) (X : Addr → Prop) (o : Bool) (d : D) (Q : Value → Shared → Prop) : Prop :=
  ∀ v s', Grow s s' → s.toks ≤ s'.toks → Weak s'.heap X d v → (o = true → Rep s'.heap X d v) → Q v s'
noncomputable def EvOk (prog : Program) (w : World) (mg mb : Str → Option Value) (fns : List (Str × Addr × Obj)) (A : Around) (sc : List (Str × NameKind)) (ev : Ev) : Prop :=
  ∀ {e : Expr} {ρ : PEnv} {o : Bool} {d : D}, ev e ρ = some (o, d) → ∀ {env : Env} {tg : Str → Prop} {base : Shared} {X M : Addr → Prop} {s : Shared} {Q : Value → Shared → Prop} {E : Value → Shared → Prop},
    St sc env tg base X M ρ s → GOk mg mb fns s.heap → Want s X o d Q → wpAny (model prog w) A (eval e env) Q E s
section
variable {prog : Program} {w : World} {mg mb : Str → Option Value} {fns : List (Str × Addr × Obj)} {G : List (Str × (List D → Option D))} {A : Around} {sc : List (Str × NameKind)} {ev : Ev}
variable {env : Env} {tg : Str → Prop} {base : Shared} {X M : Addr → Prop} {ρ : PEnv} {s : Shared} {E : Value → Shared → Prop}
theorem pclean_ok (hev : EvOk prog w mg mb fns A sc ev) : ∀ {es : List Expr} {ds : List D} {pos : Pos} {s : Shared} {Q : List Value → Shared → Prop}, pclean ev es ρ = some ds → St sc env tg base X M ρ s → GOk mg mb fns s.heap →
    (∀ vs s', Grow s s' → s.toks ≤ s'.toks → Reps s'.heap X ds vs → Q vs s') → wpAny (model prog w) A (spliced (backTo pos (starEach es env))) Q E s
  | [], ds, pos, s, Q, h, S, g, hQ => by
    unfold pclean at h; cases h
    exact wpAny_items_nil (hQ [] s (.refl s) (Nat.le_refl _) .nil)
  | e :: r, ds, pos, s, Q, h, S, g, hQ => by
    unfold pclean at h
    split at h
    · cases h
    · rename_i hns
      split at h
      · rename_i d hd
        obtain ⟨ds', h', rfl⟩ := Option.map_eq_some_iff.mp h
        refine wpAny_items_cons (hev hd S g fun v s₁ g₁ t₁ _ r₁ => ?_) ?_
        · refine pclean_ok hev h' (S.grow g₁ t₁) (g.grow g₁.heap) fun vs s₂ g₂ t₂ r₂ => hQ _ _ (g₁.trans g₂) (Nat.le_trans t₁ t₂) (.cons ((r₁ rfl).grow g₂.heap) r₂)
        · cases e <;> first | rfl | exact (hns _ _ rfl).elim
      · cases h
theorem pvals_ok (hev : EvOk prog w mg mb fns A sc ev) : ∀ {es : List Expr} {ds : List D} {pos : Pos} {s : Shared} {Q : List Value → Shared → Prop}, pvals ev es ρ = some ds → St sc env tg base X M ρ s → GOk mg mb fns s.heap →
    (∀ vs s', Grow s s' → s.toks ≤ s'.toks → Weaks s'.heap X ds vs → Q vs s') → wpAny (model prog w) A (spliced (backTo pos (starEach es env))) Q E s
  | [], ds, pos, s, Q, h, S, g, hQ => by
    unfold pvals at h; cases h
    exact wpAny_items_nil (hQ [] s (.refl s) (Nat.le_refl _) .nil)
  | e :: r, ds, pos, s, Q, h, S, g, hQ => by
    unfold pvals at h
    split at h
    · cases h
    · rename_i hns
      split at h
      · rename_i o d hd
        obtain ⟨ds', h', rfl⟩ := Option.map_eq_some_iff.mp h
        refine wpAny_items_cons (hev hd S g fun v s₁ g₁ t₁ r₁ _ => ?_) ?_
        · refine pvals_ok hev h' (S.grow g₁ t₁) (g.grow g₁.heap) fun vs s₂ g₂ t₂ r₂ => hQ _ _ (g₁.trans g₂) (Nat.le_trans t₁ t₂) (.cons (r₁.grow g₂.heap) r₂)
        · cases e <;> first | rfl | exact (hns _ _ rfl).elim
      · cases h
noncomputable def TsOk (prog : Program) (w : World) (mg mb : Str → Option Value) (fns : List (Str × Addr × Obj)) (A : Around) (sc : List (Str × NameKind)) (tst : Expr → PEnv → Option Bool) : Prop :=
  ∀ {e : Expr} {ρ : PEnv} {b : Bool}, tst e ρ = some b → ∀ {env : Env} {tg : Str → Prop} {base : Shared} {X M : Addr → Prop} {s : Shared} {Q : Bool → Shared → Prop} {E : Value → Shared → Prop},
    St sc env tg base X M ρ s → GOk mg mb fns s.heap → (∀ s', Grow s s' → s.toks ≤ s'.toks → Q b s') → wpAny (model prog w) A (isTrue e env (eval e env)) Q E s
theorem and_ok {tst : Expr → PEnv → Option Bool} (ht : TsOk prog w mg mb fns A sc tst) : ∀ {es : List Expr} {b : Bool} {s : Shared} {Q : Bool → Shared → Prop}, ptests tst false es ρ = some b → St sc env tg base X M ρ s → GOk mg mb fns s.heap →
    (∀ s', Grow s s' → s.toks ≤ s'.toks → Q b s') → wpAny (model prog w) A (allTrue .And es env) Q E s
  | [], b, s, Q, h, S, g, hQ => by
    unfold ptests at h; cases h
    exact wpAny_allTrue_And_nil (hQ s (.refl s) (Nat.le_refl _))
  | e :: r, b, s, Q, h, S, g, hQ => by
    unfold ptests at h
    split at h
    · rename_i k hk
      refine wpAny_allTrue_And_cons (ht hk S g fun s₁ g₁ t₁ => ?_)
      split at h
      · rename_i hk'; cases h; subst hk'
        exact hQ s₁ g₁ t₁
      · rename_i hk'
        have : k = true := by cases k <;> simp at hk' ⊢
        subst this
        exact and_ok ht h (S.grow g₁ t₁) (g.grow g₁.heap) fun s₂ g₂ t₂ => hQ s₂ (g₁.trans g₂) (Nat.le_trans t₁ t₂)
    · cases h
theorem or_ok {tst : Expr → PEnv → Option Bool} (ht : TsOk prog w mg mb fns A sc tst) : ∀ {es : List Expr} {b : Bool} {s : Shared} {Q : Bool → Shared → Prop}, ptests tst true es ρ = some b → St sc env tg base X M ρ s → GOk mg mb fns s.heap →
    (∀ s', Grow s s' → s.toks ≤ s'.toks → Q b s') → wpAny (model prog w) A (allTrue .Or es env) Q E s
  | [], b, s, Q, h, S, g, hQ => by
    unfold ptests at h; cases h
    exact wpAny_allTrue_Or_nil (hQ s (.refl s) (Nat.le_refl _))
  | e :: r, b, s, Q, h, S, g, hQ => by
    unfold ptests at h
    split at h
    · rename_i k hk
      refine wpAny_allTrue_Or_cons (ht hk S g fun s₁ g₁ t₁ => ?_)
      split at h
      · rename_i hk'; cases h; subst hk'
        exact hQ s₁ g₁ t₁
      · rename_i hk'
        have : k = false := by cases k <;> simp at hk' ⊢
        subst this
        exact or_ok ht h (S.grow g₁ t₁) (g.grow g₁.heap) fun s₂ g₂ t₂ => hQ s₂ (g₁.trans g₂) (Nat.le_trans t₁ t₂)
    · cases h
theorem compare_ok (hev : EvOk prog w mg mb fns A sc ev) (hu : A.units + 41 < cLine) {l r : Expr} {op : CmpOp} {b : Bool} {Q : Value → Shared → Prop}
    (h : ((ev l ρ).bind fun a => (ev r ρ).bind fun b => if (a.1 || !(op == .In || op == .NotIn)) = true then pcmp op a.2 b.2 else none) = some b) (S : St sc env tg base X M ρ s) (g : GOk mg mb fns s.heap)
    (hQ : ∀ s', Grow s s' → s.toks ≤ s'.toks → Q (.bool b) s') :
    wpAny (model prog w) A (eval l env) (fun a s₁ => wpAny (model prog w) A (eval r env) (fun b s₂ => wpAny (model prog w) A (compareOp op a b) Q E s₂) E s₁) E s := by
  obtain ⟨⟨o, a⟩, ha, h⟩ := Option.bind_eq_some_iff.mp h
  obtain ⟨⟨o', b'⟩, hb, h⟩ := Option.bind_eq_some_iff.mp h
  refine hev ha S g fun va s₁ g₁ t₁ w₁ r₁ => hev hb (S.grow g₁ t₁) (g.grow g₁.heap) fun vb s₂ g₂ t₂ w₂ r₂ => ?_
  split at h
  · rename_i hc
    refine cmp_ok (X := X) hu h (w₁.grow g₂.heap) w₂ (fun hin => ?_) (hQ s₂ (g₁.trans g₂) (Nat.le_trans t₁ t₂))
    have : o = true := by
      rcases hin with rfl | rfl <;> simpa using hc
    exact (r₁ this).grow g₂.heap
  · cases h
theorem truth_ok {d : D} {b : Bool} {v : Value} {Q : Bool → Shared → Prop} (h : truth d = some b) (r : Weak s.heap X d v) (hQ : Q b s) : wpAny (model prog w) A (truthy v) Q E s := by
  unfold truth at h
  split at h
  · cases h; rw [r.bool]; exact wpAny_pure hQ
  · cases h
theorem pt_ok (hev : EvOk prog w mg mb fns A sc ev) (hu : A.units + 41 < cLine) : ∀ (n : Fu), TsOk prog w mg mb fns A sc (pt ev n)
  | .z => by intro h; unfold pt at h; cases h
  | .s n => by
    intro h env tg base X M s Q E S g hQ
    unfold pt at h
    split at h
    · split at h
      · obtain ⟨c, hc, rfl⟩ := Option.map_eq_some_iff.mp h
        exact wpAny_isTrue_Not (pt_ok hev hu n hc S g hQ)
      · cases h
    · split at h
      · exact wpAny_isTrue_BoolOp (and_ok (pt_ok hev hu n) h S g hQ)
      · exact wpAny_isTrue_BoolOp (or_ok (pt_ok hev hu n) h S g hQ)
    · obtain ⟨op, hop, h1⟩ := Option.bind_eq_some_iff.mp h
      clear h
      obtain ⟨r, hr, h⟩ := Option.bind_eq_some_iff.mp h1
      clear h1
      obtain rfl := oneOf_is hop
      obtain rfl := oneOf_is hr
      split at h
      · cases h
      · rename_i hm
        exact wpAny_isTrue_Compare1 (compare_ok hev hu h S g fun s₁ g₁ t₁ => wpAny_pure (hQ s₁ g₁ t₁)) (by simpa using hm)
    · obtain ⟨⟨o, a⟩, ha, h⟩ := Option.bind_eq_some_iff.mp h
      exact wpAny_isTrue_value (hev ha S g fun v s₁ g₁ t₁ w₁ _ => truth_ok h w₁ (hQ s₁ g₁ t₁))
    · obtain ⟨⟨o, a⟩, ha, h⟩ := Option.bind_eq_some_iff.mp h
      exact wpAny_isTrue_value (hev ha S g fun v s₁ g₁ t₁ w₁ _ => truth_ok h w₁ (hQ s₁ g₁ t₁))
    · obtain ⟨⟨o, a⟩, ha, h⟩ := Option.bind_eq_some_iff.mp h
      exact wpAny_isTrue_value (hev ha S g fun v s₁ g₁ t₁ w₁ _ => truth_ok h w₁ (hQ s₁ g₁ t₁))
    · cases h
end
end Mine
end
section
open PySem PySem.W PyProof.Rows
set_option Elab.async false
namespace Mine
section
variable {prog : Program} {w : World} {mg mb : Str → Option Value} {fns : List (Str × Addr × Obj)} {G : List (Str × (List D → Option D))} {A : Around} {sc : List (Str × NameKind)} {ev : Ev}
variable {env : Env} {tg : Str → Prop} {base : Shared} {X M : Addr → Prop} {ρ : PEnv} {s : Shared} {E : Value → Shared → Prop}
theorem name_ok {x : Str} {pos : Pos} {o : Bool} {d : D} {Q : Value → Shared → Prop} (S : St sc env tg base X M ρ s) (h : ρ.lookup x = some (o, d))
    (hQ : ∀ v, Look env s.heap x v → Weak s.heap X d v → (o = false → Rep s.heap X d v) → Q v s) : wpAny (model prog w) A (eval (.Name x pos) env) Q E s := by
  obtain ⟨v, hl, hw, hr, _⟩ := S.vars x o d h
  obtain ⟨k, hk⟩ := S.known x o d h
  obtain ⟨hd, hc⟩ := S.plain x k hk
  have hq := hQ v hl hw hr
  rcases hl with ⟨k1, m, n, e⟩ | ⟨k1 | k1, c, e, i⟩
  · exact wpAny_Name (wpAny_loadName_local S.kind k1 n e hq) hd
  · exact wpAny_Name (wpAny_loadName_cell S.kind k1 e i hq) hd
  · exact wpAny_Name (wpAny_loadName_free S.kind k1 e i hq hc) hd
theorem const_ok {c : Const} {k : Nat} {pos : Pos} {d : D} {Q : Value → Shared → Prop} (h : pconst c = some d) (hQ : Wants s X d Q) : wpAny (model prog w) A (eval (.Constant c k pos) env) Q E s := by
  unfold pconst at h
  split at h <;> cases h
  · exact wpAny_Constant_none (hQ _ _ (.refl s) (by unfold Rep; rfl))
  · exact wpAny_Constant_bool (want_bool hQ)
  · exact wpAny_Constant_int (want_int hQ)
  · exact wpAny_Constant_str (hQ _ _ .tok .strOf)
theorem plain_of_pvals (env : Env) : ∀ {es : List Expr} {ds : List D} {pos : Pos}, pvals ev es ρ = some ds → (backTo pos (starEach es env)).any (·.1) = false ∧ es.length = ds.length ∧ (backTo pos (starEach es env)).all (fun x => !x.1) = true
  | [], ds, pos, h => by unfold pvals at h; cases h; exact ⟨rfl, rfl, rfl⟩
  | e :: r, ds, pos, h => by
    unfold pvals at h
    split at h
    · cases h
    · rename_i hns
      split at h
      · obtain ⟨ds', h', rfl⟩ := Option.map_eq_some_iff.mp h
        obtain ⟨a, b, c⟩ := plain_of_pvals env (pos := pos) h'
        have he : starEach (e :: r) env = (false, eval e env) :: starEach r env := by cases e <;> first | rfl | exact (hns _ _ rfl).elim
        rw [he]
        refine ⟨?_, by simp [b], ?_⟩
        · show (false || (backTo pos (starEach r env)).any (·.1)) = false
          rw [a]; rfl
        · show (true && (backTo pos (starEach r env)).all (fun x => !x.1)) = true
          rw [c]; rfl
      · cases h
theorem pvals_of_pclean : ∀ {es : List Expr} {ds : List D}, pclean ev es ρ = some ds → pvals ev es ρ = some ds
  | [], ds, h => by unfold pclean at h; unfold pvals; exact h
  | e :: r, ds, h => by
    unfold pclean at h; unfold pvals
    split at h
    · cases h
    · split at h
      · rename_i d hd
        obtain ⟨ds', h', rfl⟩ := Option.map_eq_some_iff.mp h
        simp only [hd, pvals_of_pclean h']
        rfl
      · cases h
theorem evalArgs_of {M : Model} {f : Value} {es : List Expr} {pos : Pos} {Q : Args → Shared → Prop} (hp : (backTo pos (starEach es env)).all (fun x => !x.1) = true)
    (h : wpAny M A (spliced (backTo pos (starEach es env))) (fun vs s' => Q ⟨vs, []⟩ s') E s) : wpAny M A (evalArgs f true (backTo pos (starEach es env)) []) Q E s := by
  generalize backTo pos (starEach es env) = l at h hp
  cases l with
  | nil => exact fun Γ p hΓ => (PySem.evalArgs_none (show Q ⟨[], []⟩ s from h Γ p hΓ)) Γ p hΓ
  | cons a r =>
    obtain ⟨b, x⟩ := a
    cases b with
    | false => exact Calls.evalArgs_plain h
    | true => simp at hp
theorem glob_ok {f : Str} {pos : Pos} {v : Value} {Q : Value → Shared → Prop} (S : St sc env tg base X M ρ s) (hk : sc.lookup f = some .globalImplicit) (h : wpAny (model prog w) A (loadGlobal env f) Q E s) :
    wpAny (model prog w) A (eval (.Name f pos) env) Q E s := by
  obtain ⟨hd, _⟩ := S.plain f _ hk
  have : env.kindOf f = some .globalImplicit := by
    rcases S.names f _ hk with a | ⟨a, _⟩
    · exact a
    · cases a
  exact Calls.Name_function_global S.kind this h hd
theorem callG_ok (hev : EvOk prog w mg mb fns A sc ev) {n : Nat} (W : World0 prog w mg mb fns G n) (R : Room A n) {f : Str} {p pos : Pos} {args : List Expr} {F : List D → Option D} {ds : List D} {d : D} {Q : Value → Shared → Prop}
    (S : St sc env tg base X M ρ s) (g : GOk mg mb fns s.heap) (hk : sc.lookup f = some .globalImplicit) (hf : G.lookup f = some F) (ha : pclean ev args ρ = some ds) (hd : F ds = some d) (hQ : Want s X true d Q) :
    wpAny (model prog w) A (eval (.Call (.Name f p) args [] pos) env) Q E s := by
  obtain ⟨a, o, fd, hm, hmem, hfd, hF⟩ := W.fn f F hf
  obtain ⟨_, _, h3⟩ := plain_of_pvals env (pos := pos) (pvals_of_pclean ha)
  refine wpAny_Call_NameR (glob_ok (v := .ref a) S hk (Calls.loadGlobal_global (S.globals ▸ g.g) hm ?_))
  refine Calls.callWith_function (o := o) (fd := fd) (evalArgs_of h3 (pclean_ok hev ha S g fun vs s₁ g₁ t₁ r₁ => ?_))
  refine ⟨⟨(g.grow g₁.heap).fn _ hmem, hfd⟩, ?_⟩
  refine Grow.toksOf (hF A E s₁ X ds vs d _ R (g.grow g₁.heap) (S.there.grow g₁.heap) (Nat.lt_of_lt_of_le S.toks t₁) r₁ hd fun v s₂ g₂ r₂ t₂ => hQ _ _ (g₁.trans g₂) (Nat.le_trans t₁ t₂) r₂.weak fun _ => r₂)
theorem callB_ok (hev : EvOk prog w mg mb fns A sc ev) {n : Nat} (W : World0 prog w mg mb fns G n) (R : Room A n) {f : Str} {p pos : Pos} {args : List Expr} {ds : List D} {d : D} {Q : Value → Shared → Prop}
    (S : St sc env tg base X M ρ s) (g : GOk mg mb fns s.heap) (hk : sc.lookup f = some .globalImplicit) (ha : pvals ev args ρ = some ds) (hd : pbuiltin f ds = some d) (hQ : Want s X true d Q) :
    wpAny (model prog w) A (eval (.Call (.Name f p) args [] pos) env) Q E s := by
  obtain ⟨h1, _, h3⟩ := plain_of_pvals env (pos := pos) ha
  have hin : f ∈ (["len", "ord", "chr", "sum", "sorted", "range"] : List Str) ∧ ∃ id, bootBuiltins f = some (.builtin id) := by
    have hd' := hd
    unfold pbuiltin at hd'
    by_cases e1 : (f == ("len" : Str)) = true
    · obtain rfl : f = "len" := eq_of_beq e1
      exact ⟨by simp, "len", by decide +kernel⟩
    · rw [if_neg e1] at hd'
      by_cases e2 : (f == ("ord" : Str)) = true
      · obtain rfl : f = "ord" := eq_of_beq e2
        exact ⟨by simp, "ord", by decide +kernel⟩
      · rw [if_neg e2] at hd'
        by_cases e3 : (f == ("chr" : Str)) = true
        · obtain rfl : f = "chr" := eq_of_beq e3
          exact ⟨by simp, "chr", by decide +kernel⟩
        · rw [if_neg e3] at hd'
          by_cases e4 : (f == ("sum" : Str)) = true
          · obtain rfl : f = "sum" := eq_of_beq e4
            exact ⟨by simp, "sum", by decide +kernel⟩
          · rw [if_neg e4] at hd'
            by_cases e5 : (f == ("sorted" : Str)) = true
            · obtain rfl : f = "sorted" := eq_of_beq e5
              exact ⟨by simp, "sorted", by decide +kernel⟩
            · rw [if_neg e5] at hd'; cases hd'
  obtain ⟨hin, id, hid⟩ := hin
  obtain ⟨hg, hb⟩ := W.boot f hin
  refine wpAny_Call_NameR (glob_ok (v := .builtin id) S hk (Calls.loadGlobal_builtin (S.globals ▸ g.g) hg (S.builtins ▸ g.b) (hb.trans hid) ?_))
  refine Calls.callWith_builtin h1 (evalArgs_of h3 (pvals_ok hev ha S g fun vs s₁ g₁ t₁ r₁ => ?_))
  refine Grow.toksOf (builtin_ok R.handled (S.there.grow g₁.heap) hd hid r₁ fun v s₂ g₂ r₂ t₂ => hQ _ _ (g₁.trans g₂) (Nat.le_trans t₁ t₂) r₂.weak fun _ => r₂)
theorem base_ok {o : Expr} (h : okBase o = true) (m : Str) (whole : Sem Value) : attributeBase o m env whole = whole := by
  unfold attributeBase
  split
  · cases h
  · rfl
theorem meth_call {T id : String} {o : Expr} {m : Str} {apos pos : Pos} {args : List Expr} {Q : Value → Shared → Prop} (hb : okBase o = true) (hl : (apos.endLine == pos.line) = true)
    (h3 : (backTo pos (starEach args env)).all (fun x => !x.1) = true) (h1 : (backTo pos (starEach args env)).any (·.1) = false) (hlen : args.length < 29)
    (slot : Slot T m id) (pa : PlainAttrs T) (hty : typeOf (.builtin id) = pure (.type "method_descriptor"))
    (h : wpAny (model prog w) A (eval o env) (fun ov s₁ => s₁.TypeIs ov T ∧ (∀ a, ov = .ref a → ∃ ob, s₁.heap.get? a = some ob ∧ ob.dict = none) ∧
      wpAny (model prog w) A (spliced (backTo pos (starEach args env))) (fun vs s₂ => wpAny (model prog w) A (call (.builtin id) (ov :: vs)) Q E s₂) E s₁) E s) :
    wpAny (model prog w) A (eval (.Call (.Attribute o m apos) args [] pos) env) Q E s := by
  refine wpAny_Call_method (base_ok hb m _) ?_ hl pa slot hty (wpAny_mono h (fun ov s₁ ⟨a, b, c⟩ => ⟨a, b, ?_⟩) fun _ _ x => x)
  · rw [h3]
    show (true && true && decide _) = true
    rw [Bool.and_true, Bool.true_and]
    exact decide_eq_true (by show args.length + 0 + 0 < 30; omega)
  · exact Calls.callWith_builtin h1 (evalArgs_of h3 c)
end
end Mine
end
section
open PySem PySem.W PyProof.Rows
set_option Elab.async false
namespace Mine
theorem slot_unique {T : String} {m : Str} {i j : String} (a : Slot T m i) (b : Slot T m j) : i = j := by
  have h : (Sem.pure (some (Value.builtin i)) : Sem (Option Value)) = Sem.pure (some (Value.builtin j)) := a.lookup.symm.trans b.lookup
  injection h with h
  injection h with h
  injection h
theorem type_str {s : Shared} {x : Str} {t : Tok} {T : String} (h : s.TypeIs (.str x t) T) : T = "str" := by
  have : (Sem.pure (Value.type "str") : Sem Value) = Sem.pure (Value.type T) := h
  injection this with h
  injection h with h
  exact h.symm
theorem type_list {s : Shared} {a : Addr} {it : Array Value} {T : String} (h : s.TypeIs (.ref a) T) (p : s.heap.PlainList a it) : T = "list" := by
  obtain ⟨o, e, c⟩ := h
  obtain ⟨n, p⟩ := p
  rw [p] at e; cases e
  injection c with h
  exact h.symm
noncomputable def methT : D → String
  | .str _ => "str"
  | _ => "list"
theorem meth_id {m : Str} {o d : D} {ds : List D} (hp : pmeth m o ds = some d) : ∃ id, Slot (methT o) m id ∧ PlainAttrs (methT o) ∧ typeOf (.builtin id) = pure (.type "method_descriptor") ∧
    ∀ (s : Shared) (X : Addr → Prop) (v : Value), Weak s.heap X o v → s.TypeIs v (methT o) ∧ (∀ a, v = .ref a → ∃ ob, s.heap.get? a = some ob ∧ ob.dict = none) := by
  have hs : ∀ (x : List Nat) (s : Shared) (X : Addr → Prop) (v : Value), Weak s.heap X (.str x) v → s.TypeIs v "str" ∧ (∀ a, v = .ref a → ∃ ob, s.heap.get? a = some ob ∧ ob.dict = none) := by
    intro x s X v h
    obtain ⟨t, rfl⟩ := h.str
    exact ⟨typeIs_str _ _ _, fun _ e => nomatch e⟩
  have hl : ∀ (x : List D) (s : Shared) (X : Addr → Prop) (v : Value), Weak s.heap X (.list x) v → s.TypeIs v "list" ∧ (∀ a, v = .ref a → ∃ ob, s.heap.get? a = some ob ∧ ob.dict = none) := by
    intro x s X v h
    obtain ⟨a, vs, rfl, p, _⟩ := h.list
    exact ⟨p.isList.typeIs, fun b e => by cases e; obtain ⟨n, p⟩ := p; exact ⟨_, p, rfl⟩⟩
  unfold pmeth at hp
  split at hp
  · split at hp
    · rename_i hm
      obtain rfl : m = "join" := eq_of_beq hm
      exact ⟨_, F.slot_str_join, F.plainAttrs_str, F.type_str_join, hs _⟩
    · cases hp
  · split at hp
    · rename_i hm
      obtain rfl : m = "index" := eq_of_beq hm
      exact ⟨_, F.slot_str_index, F.plainAttrs_str, F.type_str_index, hs _⟩
    split at hp
    · rename_i hm
      obtain rfl : m = "split" := eq_of_beq hm
      exact ⟨_, F.slot_str_split, F.plainAttrs_str, F.type_str_split, hs _⟩
    · cases hp
  · split at hp
    · rename_i hm
      obtain rfl : m = "count" := eq_of_beq hm
      exact ⟨_, F.slot_list_count, F.plainAttrs_list, F.type_list_count, hl _⟩
    · cases hp
  · split at hp
    · rename_i hm
      obtain rfl : m = "index" := eq_of_beq hm
      exact ⟨_, F.slot_list_index, F.plainAttrs_list, F.type_list_index, hl _⟩
    · cases hp
  · cases hp
theorem methT_unique {s : Shared} {X : Addr → Prop} {o d : D} {ds : List D} {m : Str} {v : Value} {T : String} (hp : pmeth m o ds = some d) (h : Weak s.heap X o v) (t : s.TypeIs v T) : T = methT o := by
  cases o with
  | str x => obtain ⟨_, rfl⟩ := h.str; exact type_str t
  | list x => obtain ⟨a, vs, rfl, p, _⟩ := h.list; exact type_list t p
  | _ => cases hp
section
variable {prog : Program} {w : World} {mg mb : Str → Option Value} {fns : List (Str × Addr × Obj)} {G : List (Str × (List D → Option D))} {A : Around} {sc : List (Str × NameKind)} {ev : Ev}
variable {env : Env} {tg : Str → Prop} {base : Shared} {X M : Addr → Prop} {ρ : PEnv} {s : Shared} {E : Value → Shared → Prop}
theorem callM_ok (hev : EvOk prog w mg mb fns A sc ev) {o : Expr} {m : Str} {apos pos : Pos} {args : List Expr} {ds : List D} {a : Bool × D} {d : D} {Q : Value → Shared → Prop} (hb : okBase o = true)
    (hl : (apos.endLine == pos.line) = true) (S : St sc env tg base X M ρ s) (g : GOk mg mb fns s.heap) (ho : ev o ρ = some a) (ha : pvals ev args ρ = some ds) (hd : pmeth m a.2 ds = some d) (hQ : Want s X true d Q) :
    wpAny (model prog w) A (eval (.Call (.Attribute o m apos) args [] pos) env) Q E s := by
  obtain ⟨id, slot, pa, hty, hT⟩ := meth_id hd
  obtain ⟨h1, h2, h3⟩ := plain_of_pvals env (pos := pos) ha
  have hlen : args.length < 29 := by
    rw [h2]
    unfold pmeth at hd
    split at hd <;> first | cases hd | (simp)
  obtain ⟨oo, od⟩ := a
  refine meth_call hb hl h3 h1 hlen slot pa hty (hev ho S g fun v s₁ g₁ t₁ w₁ _ => ⟨(hT _ _ _ w₁).1, (hT _ _ _ w₁).2, ?_⟩)
  refine pvals_ok hev ha (S.grow g₁ t₁) (g.grow g₁.heap) fun vs s₂ g₂ t₂ r₂ => ?_
  refine Grow.toksOf ?_
  obtain ⟨T, id', hT', slot', _, _, _, hw⟩ := meth_ok (prog := prog) (w := w) (A := A) (E := E) (Q := fun v s' => s₂.toks ≤ s'.toks → Q v s') ((S.there.grow g₁.heap).grow g₂.heap) hd (w₁.grow g₂.heap) r₂
    fun v s₃ g₃ r₃ t₃ => hQ v s₃ ((g₁.trans g₂).trans g₃) (Nat.le_trans (Nat.le_trans t₁ t₂) t₃) r₃.weak fun _ => r₃
  have e1 := methT_unique hd (w₁.grow g₂.heap) hT'
  subst e1
  have e2 := slot_unique slot slot'
  subst e2
  exact hw
theorem subscripted_ops (sl : Expr) (o i : Value) : ∃ ops, subscripted sl false o i = operate ops (getItem o i) := by
  unfold subscripted
  split
  · exact ⟨_, rfl⟩
  · rename_i h; cases h
  · exact ⟨_, rfl⟩
theorem index_ok (hev : EvOk prog w mg mb fns A sc ev) {v i : Expr} {pos : Pos} {a b : Bool × D} {d : D} {Q : Value → Shared → Prop}
    (S : St sc env tg base X M ρ s) (g : GOk mg mb fns s.heap) (ho : ev v ρ = some a) (hi : ev i ρ = some b) (hd : pidx a.2 b.2 = some d) (hQ : Want s X true d Q) :
    wpAny (model prog w) A (eval (.Subscript v i pos) env) Q E s := by
  obtain ⟨oo, od⟩ := a
  obtain ⟨io, id⟩ := b
  refine Subscript_ (hev ho S g fun va s₁ g₁ t₁ w₁ _ => hev hi (S.grow g₁ t₁) (g.grow g₁.heap) fun vb s₂ g₂ t₂ w₂ _ => ?_)
  obtain ⟨T, id, h1, h2, h3⟩ := idx_ok (prog := prog) (w := w) (A := A) (E := E) (Q := fun v s' => s₂.toks ≤ s'.toks → Q v s') hd (w₁.grow g₂.heap) w₂
    fun v s₃ g₃ r₃ t₃ => hQ v s₃ ((g₁.trans g₂).trans g₃) (Nat.le_trans (Nat.le_trans t₁ t₂) t₃) r₃.weak fun _ => r₃
  obtain ⟨ops, hops⟩ := subscripted_ops i va vb
  exact tail_any h1 h2 (Grow.toksOf h3) hops
theorem bound_ok (hev : EvOk prog w mg mb fns A sc ev) {e : Option Expr} {b : Option Int} {Q : Value → Shared → Prop} (h : pbound ev e ρ = some b) (S : St sc env tg base X M ρ s) (g : GOk mg mb fns s.heap)
    (hQ : ∀ v s', Grow s s' → s.toks ≤ s'.toks → Bound b v → Q v s') : wpAny (model prog w) A (evalPart e env) Q E s := by
  unfold pbound at h
  split at h
  · cases h
    rw [evalPart_none]
    exact wpAny_pure (hQ _ _ (.refl s) (Nat.le_refl _) rfl)
  · split at h
    · rename_i i hi
      cases h
      rw [evalPart_some]
      exact hev hi S g fun v s₁ g₁ t₁ w₁ _ => hQ v s₁ g₁ t₁ w₁.int
    · cases h
theorem cut_ok (hev : EvOk prog w mg mb fns A sc ev) {v : Expr} {lo hi : Option Expr} {p pos : Pos} {a : Bool × D} {bl bh : Option Int} {d : D} {Q : Value → Shared → Prop}
    (S : St sc env tg base X M ρ s) (g : GOk mg mb fns s.heap) (ho : ev v ρ = some a) (hl : pbound ev lo ρ = some bl) (hh : pbound ev hi ρ = some bh) (hd : pslice a.2 bl bh = some d) (hQ : Want s X true d Q) :
    wpAny (model prog w) A (eval (.Subscript v (.Slice lo hi none p) pos) env) Q E s := by
  obtain ⟨oo, od⟩ := a
  refine Subscript_ (hev ho S g fun va s₁ g₁ t₁ w₁ _ => wpAny_Slice (bound_ok hev hl (S.grow g₁ t₁) (g.grow g₁.heap) fun vl s₂ g₂ t₂ b₂ =>
    bound_ok hev hh ((S.grow g₁ t₁).grow g₂ t₂) ((g.grow g₁.heap).grow g₂.heap) fun vh s₃ g₃ t₃ b₃ => ?_))
  rw [evalPart_none]
  refine wpAny_pure ?_
  obtain ⟨T, id, h1, h2, h3⟩ := slice_ok (prog := prog) (w := w) (A := A) (E := E) (Q := fun v s' => s₃.toks ≤ s'.toks → Q v s') (((S.there.grow g₁.heap).grow g₂.heap).grow g₃.heap) hd ((w₁.grow g₂.heap).grow g₃.heap) b₂ b₃
    fun v s₄ g₄ r₄ t₄ => hQ v s₄ (((g₁.trans g₂).trans g₃).trans g₄) (Nat.le_trans (Nat.le_trans (Nat.le_trans t₁ t₂) t₃) t₄) r₄.weak fun _ => r₄
  exact tail_any (ops := _) h1 h2 (Grow.toksOf h3) rfl
end
end Mine
end
section
open PySem PySem.W PyProof.Rows
set_option Elab.async false
namespace Mine
section
variable {prog : Program} {w : World} {mg mb : Str → Option Value} {fns : List (Str × Addr × Obj)} {G : List (Str × (List D → Option D))} {A : Around} {sc : List (Str × NameKind)} {ev : Ev}
variable {env : Env} {tg : Str → Prop} {base : Shared} {X M : Addr → Prop} {ρ : PEnv} {s : Shared} {E : Value → Shared → Prop}
theorem reps_length' {h : Heap} {ds : List D} {vs : List Value} (r : Reps h X ds vs) : vs.length = ds.length := r.length
theorem list_ok (hev : EvOk prog w mg mb fns A sc ev) {es : List Expr} {pos : Pos} {ds : List D} {Q : Value → Shared → Prop} (S : St sc env tg base X M ρ s) (g : GOk mg mb fns s.heap)
    (ha : pclean ev es ρ = some ds) (hl : ds.length ≤ 1000000)
    (hQ : ∀ vs s₁, Grow s s₁ → s.toks ≤ s₁.toks → Reps s₁.heap X ds vs → Q (.ref s₁.heap.objs.size) { s₁ with heap := s₁.heap.push { cls := .type "list", data := .seq vs.toArray } }) :
    wpAny (model prog w) A (eval (.List es pos) env) Q E s := by
  refine PySem.wpAny_List (pclean_ok hev ha S g fun vs s₁ g₁ t₁ r₁ => ⟨?_, hQ vs s₁ g₁ t₁ r₁⟩)
  rw [reps_length' r₁, PySem.sizeLine_eq]; omega
theorem listW_ok (hev : EvOk prog w mg mb fns A sc ev) {es : List Expr} {pos : Pos} {ds : List D} {d : D} {Q : Value → Shared → Prop} (S : St sc env tg base X M ρ s) (g : GOk mg mb fns s.heap)
    (ha : pclean ev es ρ = some ds) (hl : mkL ds = some d) (hQ : Want s X true d Q) : wpAny (model prog w) A (eval (.List es pos) env) Q E s := by
  unfold mkL at hl
  split at hl
  · rename_i hl'
    cases hl
    refine list_ok hev S g ha hl' fun vs s₁ g₁ t₁ r₁ => ?_
    have r : Rep (s₁.heap.push { cls := .type "list", data := .seq vs.toArray }) X (.list ds) (.ref s₁.heap.objs.size) := .newList (S.there.grow g₁.heap) r₁
    exact hQ _ { s₁ with heap := s₁.heap.push { cls := .type "list", data := .seq vs.toArray } } (g₁.trans (.push _)) t₁ r.weak fun _ => r
  · cases hl
theorem tup_ok (hev : EvOk prog w mg mb fns A sc ev) {es : List Expr} {k : Nat} {pos : Pos} {ds : List D} {Q : Value → Shared → Prop} (S : St sc env tg base X M ρ s) (g : GOk mg mb fns s.heap)
    (ha : pclean ev es ρ = some ds) (hl : ds.length ≤ 1000000) (hQ : Want s X true (.tup ds) Q) : wpAny (model prog w) A (eval (.Tuple es k pos) env) Q E s := by
  refine PySem.wpAny_Tuple (pclean_ok hev ha S g fun vs s₁ g₁ t₁ r₁ => ⟨by rw [reps_length' r₁, PySem.sizeLine_eq]; omega, ?_⟩)
  have r : Rep (s₁.heap.push { cls := .type "tuple", data := .seq vs.toArray }) X (.tup ds) (.ref s₁.heap.objs.size) := .newTup (S.there.grow g₁.heap) r₁
  exact hQ _ { s₁ with heap := s₁.heap.push { cls := .type "tuple", data := .seq vs.toArray } } (g₁.trans (.push _)) t₁ r.weak fun _ => r
noncomputable def Odd (h : Heap) (I : Addr) : Prop := ∃ o, h.get? I = some o ∧ (∀ it n, o.data ≠ .seq it n) ∧ ∀ v, o.data ≠ .cell v
structure It (prog : Program) (w : World) (A : Around) (X M : Addr → Prop) (items : List D) (I : Addr) (fp : List Addr) (P : Nat → Value → Prop) (Sx : Nat → Heap → Prop) (n : Nat) (h : Heap) : Prop where
  hn : n = items.length
  walks : Walks prog w A I fp [I] n P Sx
  st : Sx 0 h
  odd : ∀ i h', Sx i h' → Odd h' I
  free : ∀ b ∈ fp, ¬ X b
  fp : ∀ b ∈ fp, (h.get? b).isSome
  item : ∀ i v, i < n → P i v → ∃ d, items[i]? = some d ∧ Rep h X d v
theorem reps_get {h : Heap} {ds : List D} {vs : List Value} {i : Nat} {v : Value} (r : Reps h X ds vs) (e : vs[i]? = some v) : ∃ d, ds[i]? = some d ∧ Rep h X d v := by
  have hi : i < ds.length := by
    rw [← r.length]
    exact (List.getElem?_eq_some_iff.mp e).1
  obtain ⟨v', e', r'⟩ := r.get (List.getElem?_eq_getElem hi)
  rw [e] at e'; cases e'
  exact ⟨_, List.getElem?_eq_getElem hi, r'⟩
theorem not_list_of_type {h : Heap} {a : Addr} {o : Obj} (e : h.get? a = some o) (hn : ∀ it n, o.data ≠ .seq it n) (it : Array Value) : ¬ h.PlainList a it := by
  rintro ⟨k, p⟩
  rw [p] at e; cases e
  exact hn _ _ rfl
noncomputable abbrev ItWant (prog : Program) (w : World) (A : Around) (X M : Addr → Prop) (s : Shared) (items : List D) (Q : Value → Shared → Prop) : Prop :=
  ∀ I fp P Sx n s', Grow s s' → s.toks ≤ s'.toks → It prog w A X M items I fp P Sx n s'.heap → s.heap.get? I = none → Q (.ref I) s'
theorem mfree (S : St sc env tg base X M ρ s) {I : Addr} (h : s.heap.get? I = none) : ¬ M I := fun m => by
  have := S.there I (S.mx I m); rw [h] at this; cases this
theorem xfree (S : St sc env tg base X M ρ s) {I : Addr} (h : s.heap.get? I = none) : ¬ X I := fun m => by
  have := S.there I m; rw [h] at this; cases this
theorem listIt_ok (hh : A.handled = none) {l : List D} {v : Value} {Q : Value → Shared → Prop} (S : St sc env tg base X M ρ s) (r : Rep s.heap X (.list l) v) (hQ : ItWant prog w A X M s l Q) :
    wpAny (model prog w) A (pyIter v) Q E s := by
  unfold Rep at r
  obtain ⟨a, vs, rfl, hxa, p, q⟩ := r
  refine wpAny_pyIter_list p.isList ?_
  have hne : a ≠ s.heap.objs.size := fun e => by
    obtain ⟨n, p⟩ := p
    exact Nat.lt_irrefl _ (e ▸ Heap.lt_size p)
  have hI := get_size_none s.heap
  have e0 : vs.toArray.size = l.length := by rw [List.size_toArray]; exact q.length
  have gr : Grow s { s with heap := s.heap.push { cls := .type "list_iterator", data := .fields #[.ref a, .int 0 0] } } := .push _
  refine hQ _ _ (fun i v => vs.toArray[i]? = some v) (fun i h => h.IsListIter s.heap.objs.size a i ∧ h.IsList a vs.toArray) _ _ gr (Nat.le_refl _) ⟨e0, Walks.list hh _ a hne vs.toArray, ⟨?_, ?_⟩, ?_, ?_, ?_, ?_⟩ hI
  · exact ⟨_, Heap.get?_push_size _ rfl, rfl, rfl⟩
  · obtain ⟨n, p⟩ := p
    exact (Heap.PlainList.isList ⟨n, Heap.get?_push_of_some _ p⟩)
  · rintro i h' ⟨⟨o, e, _, hd⟩, _⟩
    exact ⟨o, e, (fun _ _ q => by rw [hd] at q; cases q), fun _ q => by rw [hd] at q; cases q⟩
  · intro b hb
    simp only [List.mem_cons, List.not_mem_nil, or_false] at hb
    rcases hb with rfl | rfl
    · exact xfree S hI
    · exact hxa
  · intro b hb
    simp only [List.mem_cons, List.not_mem_nil, or_false] at hb
    rcases hb with rfl | rfl
    · show ((s.heap.push _).get? _).isSome; rw [Heap.get?_push_size _ rfl]; rfl
    · obtain ⟨n, p⟩ := p
      show ((s.heap.push _).get? _).isSome
      rw [Heap.get?_push_of_some _ p]; rfl
  · intro i v _ e
    exact reps_get (q.grow gr.heap) (by simpa using e)
theorem strIt_ok (hh : A.handled = none) {x : List Nat} {v : Value} {Q : Value → Shared → Prop} (S : St sc env tg base X M ρ s) (r : Weak s.heap X (.str x) v) (hQ : ItWant prog w A X M s (x.map fun c => .str [c]) Q) :
    wpAny (model prog w) A (pyIter v) Q E s := by
  obtain ⟨t, rfl⟩ := r.str
  have hI := get_size_none s.heap
  have e0 : (toStr x).cps.size = (x.map fun c => D.str [c]).length := by simp [toStr]
  have key : ∀ ty, (Walks prog w A s.heap.objs.size [s.heap.objs.size] [s.heap.objs.size] (toStr x).cps.size (SignAt (toStr x)) (fun i h => h.IsStrIter s.heap.objs.size ty (toStr x) t i)) →
      Q (.ref s.heap.objs.size) { s with heap := s.heap.push { cls := .type ty, data := .fields #[.str (toStr x) t, .int 0 0] } } := by
    intro ty W
    refine hQ _ _ (SignAt (toStr x)) _ _ { s with heap := s.heap.push { cls := .type ty, data := .fields #[.str (toStr x) t, .int 0 0] } } (.push _) (Nat.le_refl _) ⟨e0, W, ⟨_, Heap.get?_push_size _ rfl, rfl, rfl⟩, ?_, ?_, ?_, ?_⟩ hI
    · rintro i h' ⟨o, e, _, hd⟩
      exact ⟨o, e, (fun _ _ q => by rw [hd] at q; cases q), fun _ q => by rw [hd] at q; cases q⟩
    · intro b hb
      simp only [List.mem_cons, List.not_mem_nil, or_false] at hb
      exact hb ▸ xfree S hI
    · intro b hb
      simp only [List.mem_cons, List.not_mem_nil, or_false] at hb
      subst hb
      show ((s.heap.push _).get? _).isSome; rw [Heap.get?_push_size _ rfl]; rfl
    · rintro i v _ ⟨c, u, hc, rfl⟩
      have hc' : x[i]? = some c := by simpa [toStr] using hc
      exact ⟨.str [c], by rw [List.getElem?_map, hc']; rfl, .str⟩
  cases ha : (toStr x).cps.all (· < 128)
  · exact wpAny_pyIter_wide ha (key _ (Walks.strWide hh _ _ _))
  · exact wpAny_pyIter_ascii ha (key _ (Walks.strAscii hh _ _ _))
theorem upto_get : ∀ (n : Nat) (a : Int) (i : Nat), i < n → (upto a n)[i]? = some (.int (a + i))
  | 0, a, i, h => absurd h (Nat.not_lt_zero _)
  | n + 1, a, 0, h => by simp [upto]
  | n + 1, a, i + 1, h => by
    unfold upto
    rw [List.getElem?_cons_succ, upto_get n (a + 1) i (Nat.lt_of_succ_lt_succ h)]
    congr 2
    push_cast
    omega
theorem upto_length : ∀ (n : Nat) (a : Int), (upto a n).length = n
  | 0, _ => rfl
  | n + 1, a => by unfold upto; rw [List.length_cons, upto_length]
theorem rangeIt_ok (hh : A.handled = none) {a b : Int} {r : Addr} {t u v : Tok} {items : List D} {Q : Value → Shared → Prop} (S : St sc env tg base X M ρ s) (hr : IsRange s.heap r a b 1 t u v) (hp : prange a b = some items)
    (hQ : ItWant prog w A X M s items Q) : wpAny (model prog w) A (pyIter (.ref r)) Q E s := by
  unfold prange at hp
  split at hp
  · rename_i hc
    cases hp
    simp only [small?, Bool.and_eq_true, decide_eq_true_eq] at hc
    obtain ⟨⟨⟨h1, h2⟩, h3, h4⟩, _⟩ := hc
    have hI := get_size_none s.heap
    refine wpAny_pyIter_range hr (small_one h1 h2 h3 h4) ?_
    have hsz : Builtin.Range.rangeSize a b 1 = ((b - a).toNat : Int) := by rw [rangeSize_one]; split <;> omega
    refine hQ _ _ _ _ _ { s with heap := s.heap.push { cls := .type "range_iterator", data := .fields #[rawInt a, rawInt (Builtin.Range.rangeSize a b 1), rawInt 1] } } (.push _) (Nat.le_refl _)
      ⟨(upto_length (b - a).toNat a).symm, Walks.range hh s.heap.objs.size a 1 (b - a).toNat, ?_, ?_, ?_, ?_, ?_⟩ hI
    · have e1 : (a + ((0 : Nat) : Int) * 1) = a := by simp
      have e2 : (((b - a).toNat : Int) - ((0 : Nat) : Int)) = Builtin.Range.rangeSize a b 1 := by rw [hsz]; simp
      show IsRangeIter _ _ (a + ((0 : Nat) : Int) * 1) (((b - a).toNat : Int) - ((0 : Nat) : Int)) 1
      rw [e1, e2]
      exact Heap.get?_push_size _ rfl
    · intro i h' e
      exact ⟨_, (show h'.get? _ = some _ from e), (fun _ _ q => by cases q), fun _ q => by cases q⟩
    · intro b hb
      simp only [List.mem_cons, List.not_mem_nil, or_false] at hb
      exact hb ▸ xfree S hI
    · intro b hb
      simp only [List.mem_cons, List.not_mem_nil, or_false] at hb
      subst hb
      show ((s.heap.push _).get? _).isSome; rw [Heap.get?_push_size _ rfl]; rfl
    · rintro i v hi ⟨t, rfl⟩
      exact ⟨.int (a + i), upto_get _ _ _ hi, by rw [Int.mul_one]; exact .int⟩
  · cases hp
theorem callR_ok (hev : EvOk prog w mg mb fns A sc ev) {n : Nat} (W : World0 prog w mg mb fns G n) {p pos : Pos} {args : List Expr} {ds : List D} {Q : Value → Shared → Prop}
    (S : St sc env tg base X M ρ s) (g : GOk mg mb fns s.heap) (hk : sc.lookup ("range" : Str) = some .globalImplicit) (ha : pvals ev args ρ = some ds)
    (hQ : ∀ vs s₁, Grow s s₁ → s.toks ≤ s₁.toks → Weaks s₁.heap X ds vs → wpAny (model prog w) A (call (.type "range") vs) Q E s₁) :
    wpAny (model prog w) A (eval (.Call (.Name "range" p) args [] pos) env) Q E s := by
  obtain ⟨h1, _, h3⟩ := plain_of_pvals env (pos := pos) ha
  obtain ⟨hg, hb⟩ := W.boot "range" (by simp)
  have hid : bootBuiltins "range" = some (.type "range") := by decide +kernel
  refine wpAny_Call_NameR (glob_ok (v := .type "range") S hk (Calls.loadGlobal_builtin (S.globals ▸ g.g) hg (S.builtins ▸ g.b) (hb.trans hid) ?_))
  exact PyProof.Rows.callWith_type h1 (evalArgs_of h3 (pvals_ok hev ha S g hQ))
theorem ItWant.grow {s s' : Shared} {items : List D} {Q : Value → Shared → Prop} (g : Grow s s') (t : s.toks ≤ s'.toks) (h : ItWant prog w A X M s items Q) : ItWant prog w A X M s' items Q :=
  fun I fp P Sx n s₂ g₂ t₂ i e => h I fp P Sx n s₂ (g.trans g₂) (Nat.le_trans t t₂) i (by
    cases q : s.heap.get? I with
    | none => rfl
    | some o => rw [g.heap _ _ q] at e; cases e)
theorem pit_ok (hev : EvOk prog w mg mb fns A sc ev) {n : Nat} (W : World0 prog w mg mb fns G n) (hh : A.handled = none) {e : Expr} {items : List D} {Q : Value → Shared → Prop}
    (S : St sc env tg base X M ρ s) (g : GOk mg mb fns s.heap) (hp : pit sc ev e ρ = some items) (hQ : ItWant prog w A X M s items Q) :
    wpAny (model prog w) A (eval e env) (fun xv s₁ => wpAny (model prog w) A (pyIter xv) Q E s₁) E s := by
  unfold pit at hp
  split at hp
  · split at hp
    · rename_i hf
      obtain rfl := eq_of_beq hf
      split at hp
      · rename_i hk
        split at hp
        · rename_i n ha
          refine callR_ok hev W S g hk ha fun vs s₁ g₁ t₁ r₁ => ?_
          cases r₁ with
          | cons h1 r₁ =>
            cases r₁
            obtain ⟨t, rfl⟩ := h1.int
            refine call_range_1 ?_
            have gg : Grow s₁ { s₁ with heap := s₁.heap.push { cls := .type "range", data := .fields #[.int 0 s₁.toks, .int n t, .int 1 (s₁.toks + 1)] }, toks := s₁.toks + 1 + 1 } := .pushTok _
            exact rangeIt_ok hh ((S.grow g₁ t₁).grow gg (by show s₁.toks ≤ s₁.toks + 1 + 1; omega)) (IsRange.new ..) hp ((hQ.grow g₁ t₁).grow gg (by show s₁.toks ≤ s₁.toks + 1 + 1; omega))
        · rename_i n m ha
          refine callR_ok hev W S g hk ha fun vs s₁ g₁ t₁ r₁ => ?_
          cases r₁ with
          | cons h1 r₁ =>
            cases r₁ with
            | cons h2 r₁ =>
              cases r₁
              obtain ⟨t, rfl⟩ := h1.int
              obtain ⟨u, rfl⟩ := h2.int
              refine call_range_2 ?_
              have gg : Grow s₁ { s₁ with heap := s₁.heap.push { cls := .type "range", data := .fields #[.int n t, .int m u, .int 1 s₁.toks] }, toks := s₁.toks + 1 } := .pushTok _
              exact rangeIt_ok hh ((S.grow g₁ t₁).grow gg (by show s₁.toks ≤ s₁.toks + 1; omega)) (IsRange.new ..) hp ((hQ.grow g₁ t₁).grow gg (by show s₁.toks ≤ s₁.toks + 1; omega))
        · cases hp
      · cases hp
    · cases hp
  · cases hp
  · split at hp
    · rename_i l hl
      split at hp
      · cases hp
        exact hev hl S g fun v s₁ g₁ t₁ w₁ r₁ => listIt_ok hh (S.grow g₁ t₁) (r₁ rfl) (hQ.grow g₁ t₁)
      · cases hp
    · rename_i x hl
      split at hp
      · cases hp
        exact hev hl S g fun v s₁ g₁ t₁ w₁ r₁ => strIt_ok hh (S.grow g₁ t₁) w₁ (hQ.grow g₁ t₁)
      · cases hp
    · cases hp
theorem notSet_of_pit {e : Expr} {items : List D} (hp : pit sc ev e ρ = some items) : ∀ x, foldedSetIterable e env x = pure x := by
  intro x
  cases e <;> first | rfl | (unfold pit at hp; cases hp)
end
end Mine
end
section
open PySem PySem.W PyProof.Rows
set_option Elab.async false
namespace Mine
section
variable {prog : Program} {w : World} {A : Around} {E : Value → Shared → Prop} {R : Result → Shared → Prop} {s : Shared}
noncomputable def EmitOk (prog : Program) (w : World) (A : Around) (elt : Expr) (gens : List Comprehension) (scope : Scope) (pos : Pos) (k : Nat) (acc : Value) (env : Env) (K : Shared → Prop) (E : Value → Shared → Prop) (s₃ : Shared) : Prop :=
  match gens[k + 1]? with
  | none => wpAny (model prog w) A (eval elt env) (fun x s₄ => wpAny (model prog w) A (call (.builtin "list.append") [acc, x]) (fun _ s₅ => K s₅) E s₄) E s₃
  | some g' => g'.is_async = 0 ∧ (∀ x, foldedSetIterable g'.iter env x = pure x) ∧ wpAny (model prog w) A (eval g'.iter env) (fun x s₄ => wpAny (model prog w) A (pyIter x) (fun it' s₅ =>
      codeAny (model prog w) A (.compStart (.ListComp elt gens scope pos) (k + 1) it' acc env) (fun r s' => match r with | .ok _ => K s' | .error e => cameBackBy (model prog w) A env E e s') s₅) E s₄) E s₃
noncomputable abbrev testsOf (ifs : List Expr) (env : Env) : Sem Bool := forIn ifs true fun c r => if r = true then do let ok ← isTrue c env (eval c env); pure (ForInStep.yield ok) else pure (ForInStep.yield r)
theorem codeAny_compLoop_gen {elt : Expr} {gens : List Comprehension} {scope : Scope} {pos : Pos} {k : Nat} {target iter : Expr} {ifs : List Expr} {it acc : Value} {env : Env} (hg : gens[k]? = some ⟨target, iter, ifs, 0⟩) (I : Nat → Shared → Prop)
    (turn : ∀ n s, I n s → ∀ E, wpAny (model prog w) A (pyNext it) (fun r s₁ => match r with
      | none => R (.ok .next) s₁
      | some v => wpAny (model prog w) A (assign target env v) (fun _ s₂ =>
          wpAny (model prog w) A (testsOf ifs env) (fun ok s₃ =>
            if ok = true then EmitOk prog w A elt gens scope pos k acc env (fun s₅ => ∃ m, m < n ∧ I m s₅) E s₃
            else ∃ m, m < n ∧ I m s₃) E s₂) E s₁) E s)
    (n : Nat) (h : I n s) (ht : ∀ v, letOwnedTupleGo target it v = pure () := by intro _; rfl) :
    codeAny (model prog w) A (.compLoop (.ListComp elt gens scope pos) k it acc env) R s := by
  refine codeAny_loop rfl I (fun n s hI => ?_) n h
  show wpAny _ A ((compTurn (.ListComp elt gens scope pos) k it acc env).onRaise (fun x => do noteFrame x env; theTreesLotGoes x)) _ _ s
  refine wpAny_noted ?_
  unfold compTurn
  simp only [hg, bne_self_eq_false, Bool.false_eq_true, if_false]
  refine wpAny_bind (wpAny_standAt (wpAny_bind (wpAny_mono (turn n s hI _) (fun r s₁ h₁ => ?_) fun _ _ h' => h')))
  cases r with
  | none => exact wpAny_pure h₁
  | some v =>
    refine wpAny_bind (wpAny_of_eq (ht v) ?_)
    refine wpAny_bind (wpAny_mono h₁ (fun _ s₂ h₂ => wpAny_bind (wpAny_mono h₂ (fun ok s₃ h₃ => ?_) fun _ _ h' => h')) fun _ _ h' => h')
    cases ok with
    | false => exact wpAny_pure ⟨rfl, h₃⟩
    | true =>
      rw [if_pos rfl] at h₃
      unfold EmitOk at h₃
      have h₄ := h₃
      cases hq : gens[k + 1]? with
      | none =>
        simp only [hq] at h₄
        exact wpAny_bind (wpAny_bind (wpAny_mono h₄ (fun x s₄ h₅ => wpAny_bind (wpAny_mono h₅ (fun _ s₅ h₆ => wpAny_pure (wpAny_pure ⟨rfl, h₆⟩)) fun _ _ h' => h')) fun _ _ h' => h'))
      | some g' =>
        simp only [hq] at h₄
        obtain ⟨ha, hs, h₄⟩ := h₄
        refine wpAny_bind (wpAny_mono h₄ (fun x s₄ h₅ => wpAny_bind (wpAny_standAt ?_)) fun _ _ h' => h')
        have hb : (g'.is_async != 0) = false := by rw [ha]; rfl
        simp only [hb, Bool.false_eq_true, if_false]
        rw [hs]
        refine wpAny_bind (wpAny_pure (wpAny_bind (wpAny_holding (wpAny_mono h₅ (fun it' s₅ h₆ => wpAny_bind (wpAny_runOwn (codeAny_mono h₆ fun r s' hr => ?_))) fun _ _ h' => h'))))
        cases r with
        | ok f => exact wpAny_pure ⟨rfl, hr⟩
        | error e => exact hr
end
end Mine
end
section
open PySem PySem.W PyProof.Rows
set_option Elab.async false
namespace Mine
theorem Odd.notList {h : Heap} {I : Addr} (o : Odd h I) (it : Array Value) : ¬ h.PlainList I it := by
  obtain ⟨o, e, hd, _⟩ := o
  exact not_list_of_type e hd it
theorem Odd.notTup {h : Heap} {I : Addr} (o : Odd h I) (vs : List Value) : ¬ PlainTup h I vs := by
  obtain ⟨o, e, hd, _⟩ := o
  rintro ⟨k, p⟩
  rw [p] at e; cases e
  exact hd _ _ rfl
mutual
theorem Rep.avoid {h : Heap} {X : Addr → Prop} {I : Addr} (ho : Odd h I) : ∀ {d : D} {v : Value}, Rep h X d v → Rep h (fun b => X b ∨ b = I) d v
  | .none, _, r => by unfold Rep at r ⊢; exact r
  | .bool _, _, r => by unfold Rep at r ⊢; exact r
  | .int _, _, r => by unfold Rep at r ⊢; exact r
  | .str _, _, r => by unfold Rep at r ⊢; exact r
  | .list l, _, r => by
    unfold Rep at r ⊢
    obtain ⟨a, vs, e, hx, hp, hr⟩ := r
    exact ⟨a, vs, e, fun y => y.elim hx fun q => ho.notList _ (q ▸ hp), hp, Reps.avoid ho hr⟩
  | .tup l, _, r => by
    unfold Rep at r ⊢
    obtain ⟨a, vs, e, hx, hp, hr⟩ := r
    exact ⟨a, vs, e, fun y => y.elim hx fun q => ho.notTup _ (q ▸ hp), hp, Reps.avoid ho hr⟩
theorem Reps.avoid {h : Heap} {X : Addr → Prop} {I : Addr} (ho : Odd h I) : ∀ {l : List D} {vs : List Value}, Reps h X l vs → Reps h (fun b => X b ∨ b = I) l vs
  | [], _, r => by unfold Reps at r ⊢; exact r
  | d :: ds, _, r => by
    unfold Reps at r ⊢
    obtain ⟨v, t, e, h1, h2⟩ := r
    exact ⟨v, t, e, Rep.avoid ho h1, Reps.avoid ho h2⟩
end
noncomputable abbrev But (I : Addr) (h h' : Heap) : Prop := ∀ b o, b ≠ I → h.get? b = some o → h'.get? b = some o
theorem Rep.but {h h' : Heap} {X : Addr → Prop} {I : Addr} (ho : Odd h I) (k : But I h h') {d : D} {v : Value} (r : Rep h X d v) : Rep h' X d v :=
  (r.avoid ho).move ⟨fun b o hb e => k b o (fun q => hb (.inr q)) e, fun _ _ y => .inl y⟩
theorem Reps.but {h h' : Heap} {X : Addr → Prop} {I : Addr} (ho : Odd h I) (k : But I h h') {d : List D} {v : List Value} (r : Reps h X d v) : Reps h' X d v :=
  (r.avoid ho).move ⟨fun b o hb e => k b o (fun q => hb (.inr q)) e, fun _ _ y => .inl y⟩
theorem Weak.but {h h' : Heap} {X : Addr → Prop} {I : Addr} (ho : Odd h I) (k : But I h h') {d : D} {v : Value} (r : Weak h X d v) : Weak h' X d v := by
  cases d <;> try exact Rep.but ho k r
  obtain ⟨b, vs, e, ⟨n, p⟩, q⟩ := r
  exact ⟨b, vs, e, ⟨n, k _ _ (fun z => by subst z; exact ho.notList _ ⟨n, p⟩) p⟩, q.but ho k⟩
section
variable {sc : List (Str × NameKind)} {env : Env} {tg : Str → Prop} {base s s' : Shared} {X M : Addr → Prop} {ρ ρ' : PEnv}
theorem St.sub (S : St sc env tg base X M ρ s) (h : ∀ y u, ρ'.lookup y = some u → ρ.lookup y = some u) : St sc env tg base X M ρ' s :=
  { S with
    known := fun x o d e => S.known x o d (h x _ e)
    vars := fun x o d e => S.vars x o d (h x _ e)
    apart := fun x y dx dy vx vy ex ey => S.apart x y dx dy vx vy (h _ _ ex) (h _ _ ey) }
theorem Look.but {I : Addr} (ho : Odd s.heap I) (k : But I s.heap s'.heap) (hL : env.locals ≠ I) {x : Str} {v : Value} (l : Look env s.heap x v) : Look env s'.heap x v := by
  rcases l with ⟨k1, m, n, e⟩ | ⟨k1, c, e, i⟩
  · exact .inl ⟨k1, m, n.at' fun o q => k _ o hL q, e⟩
  · refine .inr ⟨k1, c, e, ?_⟩
    obtain ⟨o, q, hd⟩ := i
    refine ⟨o, k _ o (fun z => ?_) q, hd⟩
    obtain ⟨o', q', _, hc⟩ := ho
    subst z
    rw [q] at q'; cases q'
    exact hc _ hd
theorem St.item (S : St sc env tg base X M ρ s) {I : Addr} (ho : Odd s.heap I) (hI : ¬ M I) (hX : ¬ X I) (hb : base.heap.get? I = none) {h' : Heap} {tk : Nat} (k : But I s.heap h') (t : s.toks ≤ tk) :
    St sc env tg base X M ρ { s with heap := h', toks := tk } := by
  have hL : env.locals ≠ I := fun q => hI (q ▸ S.locM)
  have lk : ∀ {x v}, Look env s.heap x v → Look env h' x v := fun l => Look.but (s' := { s with heap := h' }) ho k hL l
  exact { S with
    ns := let ⟨m, n⟩ := S.ns; ⟨m, n.at' fun o q => k _ o hL q⟩
    vars := fun x o d e => let ⟨v, a, b, c, f⟩ := S.vars x o d e; ⟨v, lk a, b.but ho k, fun q => (c q).but ho k, f⟩
    apart := fun x y dx dy vx vy ex ey lx ly hne => by
      obtain ⟨v, a, _⟩ := S.vars x _ _ ex
      obtain ⟨u, b, _⟩ := S.vars y _ _ ey
      have e1 := (lk a).det lx
      have e2 := (lk b).det ly
      subst e1 e2
      exact S.apart x y dx dy _ _ ex ey a b hne
    there := fun b hb => by
      obtain ⟨o, e⟩ := Option.isSome_iff_exists.mp (S.there b hb)
      show (h'.get? b).isSome
      rw [k b o (fun q => hX (q ▸ hb)) e]; rfl
    keep := fun b o e => k b o (fun q => by rw [q, hb] at e; cases e) (S.keep b o e)
    cells := fun x c e => by
      obtain ⟨v, o, q, hd⟩ := S.cells x c e
      refine ⟨v, o, k _ o (fun z => ?_) q, hd⟩
      obtain ⟨o', q', _, hc⟩ := ho
      subst z
      rw [q] at q'; cases q'
      exact hc _ hd
    toks := Nat.lt_of_lt_of_le S.toks t }
theorem St.over (S : St sc env tg base X M ρ s) {D : Addr} (hD : X D) (hM : ¬ M D) (hb : base.heap.get? D = none) {h' : Heap} {tk : Nat} (hs : Heap.SameBut D s.heap h') (hp : ∃ it, s.heap.PlainList D it) (hp' : (h'.get? D).isSome) (t : s.toks ≤ tk) :
    St sc env tg base X M ρ { s with heap := h', toks := tk } := by
  have hL : env.locals ≠ D := fun q => hM (q ▸ S.locM)
  obtain ⟨it, np, hp⟩ := hp
  have nc : ∀ {c v}, s.heap.IsCell c v → c ≠ D := by
    rintro c v ⟨o, q, hd⟩ rfl
    rw [hp] at q; cases q; cases hd
  have lk : ∀ {x v}, Look env s.heap x v → Look env h' x v := by
    intro x v l
    rcases l with ⟨k1, m, n, e⟩ | ⟨k1, c, e, i⟩
    · exact .inl ⟨k1, m, n.sameBut hs hL, e⟩
    · exact .inr ⟨k1, c, e, i.sameBut hs (nc i)⟩
  exact { S with
    ns := let ⟨m, n⟩ := S.ns; ⟨m, n.sameBut hs hL⟩
    vars := fun x o d e => by
      obtain ⟨v, a, b, c, f⟩ := S.vars x o d e
      refine ⟨v, lk a, ?_, fun q => (c q).upd hD hs, f⟩
      cases o with
      | false => exact ((c rfl).upd hD hs).weak
      | true =>
        obtain ⟨a', l, rfl, f1, f2, rfl⟩ := f rfl
        obtain ⟨b', vs, e1, ⟨n, p⟩, r⟩ := b.list
        cases e1
        have hne : a' ≠ D := by
          by_cases q : tg x
          · exact fun z => hM (z ▸ f1 q)
          · intro z
            have := f2 q
            rw [z, hb] at this; cases this
        exact ⟨a', vs, rfl, ⟨n, (hs.2 a' hne).trans p⟩, r.upd hD hs⟩
    apart := fun x y dx dy vx vy ex ey lx ly hne => by
      obtain ⟨v, a, _⟩ := S.vars x _ _ ex
      obtain ⟨u, b, _⟩ := S.vars y _ _ ey
      have e1 := (lk a).det lx
      have e2 := (lk b).det ly
      subst e1 e2
      exact S.apart x y dx dy _ _ ex ey a b hne
    there := fun b hb => by
      show (h'.get? b).isSome
      by_cases q : b = D
      · subst q; exact hp'
      · rw [hs.2 b q]; exact S.there b hb
    keep := fun b o e => (hs.2 b (fun q => by rw [q, hb] at e; cases e)).trans (S.keep b o e)
    cells := fun x c e => by
      obtain ⟨v, i⟩ := S.cells x c e
      exact ⟨v, i.sameBut hs (nc i)⟩
    toks := Nat.lt_of_lt_of_le S.toks t }
noncomputable def Own (sc : List (Str × NameKind)) (x : Str) : Prop := own sc x = true
theorem Own.known {x : Str} (h : Own sc x) : ∃ k, sc.lookup x = some k := by
  unfold Own own at h
  split at h
  · exact ⟨_, by assumption⟩
  · exact ⟨_, by assumption⟩
  · cases h
end
section
variable {prog : Program} {w : World} {mg mb : Str → Option Value} {fns : List (Str × Addr × Obj)} {G : List (Str × (List D → Option D))} {A : Around} {sc : List (Str × NameKind)} {ev : Ev}
variable {env : Env} {tg : Str → Prop} {base : Shared} {X M : Addr → Prop} {ρ : PEnv} {s : Shared} {E : Value → Shared → Prop}
theorem tests_ok {tst : Expr → PEnv → Option Bool} (ht : TsOk prog w mg mb fns A sc tst) : ∀ {ifs : List Expr} {b : Bool} {s : Shared} {Q : Bool → Shared → Prop}, pfilter tst ifs ρ = some b → St sc env tg base X M ρ s → GOk mg mb fns s.heap →
    (∀ s', Grow s s' → s.toks ≤ s'.toks → Q b s') → wpAny (model prog w) A (testsOf ifs env) Q E s := by
  have stop : ∀ (r : List Expr) (s : Shared) (Q : Bool → Shared → Prop), Q false s →
      wpAny (model prog w) A (forIn r false fun c r => if r = true then do let ok ← isTrue c env (eval c env); pure (ForInStep.yield ok) else pure (ForInStep.yield r)) Q E s := by
    intro r
    induction r with
    | nil => intro s Q h; exact wpAny_pure h
    | cons c r ih =>
      intro s Q h
      rw [List.forIn_cons]
      exact wpAny_bind (wpAny_pure (ih s Q h))
  intro ifs
  induction ifs with
  | nil =>
    intro b s Q h S g hQ
    unfold pfilter at h; cases h
    exact wpAny_pure (hQ s (.refl s) (Nat.le_refl _))
  | cons c r ih =>
    intro b s Q h S g hQ
    unfold pfilter at h
    show wpAny _ _ (forIn (c :: r) true _) _ _ _
    rw [List.forIn_cons]
    split at h
    · rename_i hc
      exact wpAny_bind (wpAny_bind (ht hc S g fun s₁ g₁ t₁ => wpAny_pure (ih h (S.grow g₁ t₁) (g.grow g₁.heap) fun s₂ g₂ t₂ => hQ s₂ (g₁.trans g₂) (Nat.le_trans t₁ t₂))))
    · rename_i hc
      cases h
      exact wpAny_bind (wpAny_bind (ht hc S g fun s₁ g₁ t₁ => wpAny_pure (stop r s₁ Q (hQ s₁ g₁ t₁))))
    · cases h
theorem codeAny_compStart_gen {R : Result → Shared → Prop} {elt : Expr} {gens : List Comprehension} {k : Nat} {target iter : Expr} {ifs : List Expr} {scope : Scope} {pos : Pos} {it acc : Value} (hg : gens[k]? = some ⟨target, iter, ifs, 0⟩)
    (h0 : codeAny (model prog w) A (.compLoop (.ListComp elt gens scope pos) k it acc env) R s)
    (h : wpAny (model prog w) A (pyIter it) (fun it' s' => codeAny (model prog w) A (.compLoop (.ListComp elt gens scope pos) k it' acc env) R s')
      (notedBy (model prog w) A env fun x s' => R (.error x) s') s) :
    codeAny (model prog w) A (.compStart (.ListComp elt gens scope pos) k it acc env) R s := by
  refine codeAny_of_tree ?_
  show wpAny _ _ ((compStart (.ListComp elt gens scope pos) k it acc env).onRaise (fun x => do noteFrame x env; standAt theWindowsPlace)) _ _ s
  refine wpAny_notedAt ?_
  unfold compStart
  have hg' : (clausesOf (.ListComp elt gens scope pos))[k]? = some ⟨target, iter, ifs, 0⟩ := hg
  simp only [hg']
  refine wpAny_bind (wpAny_askSetting (wpAny_ite ?_))
  split
  · first
      | exact wpAny_bind (wpAny_pure (wpAny_pure (And.intro rfl h0)))
      | exact wpAny_pure (And.intro rfl h0)
  · first
      | exact wpAny_bind (wpAny_rule (wpAny_bind (wpAny_standAt (wpAny_bind (wpAny_mono h (fun it' s' h' => wpAny_pure (And.intro rfl h')) fun _ _ x => x)))))
      | (refine wpAny_bind (wpAny_rule ?_); show wpAny _ _ (standAt iter.pos >>= _) _ _ s; exact wpAny_bind (wpAny_standAt (wpAny_bind (wpAny_mono h (fun it' s' h' => wpAny_pure (And.intro rfl h')) fun _ _ x => x))))
end
end Mine
end
section
open PySem PySem.W PyProof.Rows
set_option Elab.async false
namespace Mine
theorem okClause_is {g : Comprehension} (h : okClause g = true) : ∃ x p iter ifs, g = ⟨.Name x p, iter, ifs, 0⟩ := by
  unfold okClause at h
  split at h
  · exact ⟨_, _, _, _, rfl⟩
  · cases h
theorem pturn_cons {sc : List (Str × NameKind)} {ev : Ev} {n : Fu} {elt : Expr} {x : Str} {p : Pos} {iter : Expr} {ifs : List Expr} {gs : List Comprehension} {ρ : PEnv} {d : D} :
    pturn sc ev n elt (⟨.Name x p, iter, ifs, 0⟩ :: gs) ρ d = if ((ρ.lookup x).isNone && own sc x) = true then (match pfilter (pt ev n) ifs (ρ.set x (false, d)) with
    | some true => (match gs with
      | [] => (match ev elt (ρ.set x (false, d)) with
        | some (true, v) => some [v]
        | _ => none)
      | _ :: _ => none)
    | some false => some []
    | none => none) else none := by
  cases gs <;> rfl
section
variable {prog : Program} {w : World} {mg mb : Str → Option Value} {fns : List (Str × Addr × Obj)} {G : List (Str × (List D → Option D))} {A : Around} {sc : List (Str × NameKind)} {ev : Ev}
variable {env : Env} {base : Shared} {X M : Addr → Prop} {E : Value → Shared → Prop}
theorem comp_ok (hev : EvOk prog w mg mb fns A sc ev) {nn : Nat} (W : World0 prog w mg mb fns G nn) (hh : A.handled = none) (hu : A.units + 41 < cLine) (gb : GOk mg mb fns base.heap) {Dl : Addr} (hXD : X Dl) (hMD : ¬ M Dl) (hbD : base.heap.get? Dl = none)
    (nF : Fu) (elt : Expr) (scope : Scope) (pos : Pos) (gens : List Comprehension) :
    ∀ (gs : List Comprehension) (k : Nat), (∀ j, gens[k + j]? = gs[j]?) → (∀ g ∈ gs, okClause g = true) → gs ≠ [] → ∀ {ρ : PEnv} {items out done : List D} {vs : List Value} {I : Addr} {fp : List Addr} {P : Nat → Value → Prop} {Sx : Nat → Heap → Prop} {n : Nat} {s : Shared} {R : Result → Shared → Prop},
      pforeach (pturn sc ev nF elt gs ρ) items = some out → St sc env (Own sc) base X M ρ s → It prog w A X M items I fp P Sx n s.heap → ¬ X I → base.heap.get? I = none →
      s.heap.PlainList Dl vs.toArray → Reps s.heap X done vs → done.length + out.length ≤ 1000000 →
      (∀ s' vs', St sc env (Own sc) base X M ρ s' → s'.heap.PlainList Dl vs'.toArray → Reps s'.heap X (done ++ out) vs' → (∀ b o, ¬ M b → b ≠ Dl → b ≠ I → s.heap.get? b = some o → s'.heap.get? b = some o) → s.toks ≤ s'.toks → R (.ok .next) s') →
      codeAny (model prog w) A (.compLoop (.ListComp elt gens scope pos) k (.ref I) (.ref Dl) env) R s := by
  intro gs
  cases gs with
  | nil => intro k _ _ h; exact (h rfl).elim
  | cons g gs =>
    intro k hg hcl hne ρ items out done vs I fp P Sx n s R hout S It₀ hXI hbI pD₀ rD₀ hlen hR
    obtain ⟨x, px, iter, ifs, rfl⟩ := okClause_is (hcl _ List.mem_cons_self)
    have hg0 : gens[k]? = some ⟨.Name x px, iter, ifs, 0⟩ := by simpa using hg 0
    have hg1 : gens[k + 1]? = gs[0]? := by simpa using hg 1
    have hMI : ¬ M I := fun m => hXI (S.mx I m)
    have hDI : Dl ≠ I := fun q => hXI (q ▸ hXD)
    have hfree : ∀ b ∈ fp, ¬ M b := fun b hb m => It₀.free b hb (S.mx b m)
    have hDf : Dl ∉ fp := fun hm => It₀.free Dl hm hXD
    refine codeAny_compLoop_gen hg0 (fun m s₁ => ∃ i done₁ vs₁ rest, m = n + 1 - i ∧ i ≤ n ∧ Sx i s₁.heap ∧ St sc env (Own sc) base X M ρ s₁ ∧ s₁.heap.PlainList Dl vs₁.toArray ∧ Reps s₁.heap X done₁ vs₁ ∧
      pforeach (pturn sc ev nF elt (⟨.Name x px, iter, ifs, 0⟩ :: gs) ρ) (items.drop i) = some rest ∧ done₁ ++ rest = done ++ out ∧ (∀ b o, ¬ M b → b ≠ Dl → b ≠ I → s.heap.get? b = some o → s₁.heap.get? b = some o) ∧ s.toks ≤ s₁.toks)
      ?_ (n + 1) ⟨0, done, vs, out, rfl, Nat.zero_le _, It₀.st, S, pD₀, rD₀, hout, rfl, fun _ _ _ _ _ e => e, Nat.le_refl _⟩
    rintro m s₁ ⟨i, done₁, vs₁, rest, rfl, hi, hst, S₁, pD, rD, hrest, heq, hk, ht⟩ E
    have ho := It₀.odd i _ hst
    rcases Nat.lt_or_eq_of_le hi with hi | rfl
    · refine Grow.toksOf (It₀.walks.item i s₁ _ E hi hst fun v h' tk hP hst' hkeep htk => ?_)
      have but : But I s₁.heap h' := fun b o hb e => hkeep b o (by simpa using hb) e
      have S₂ : St sc env (Own sc) base X M ρ { s₁ with heap := h', toks := tk } := S₁.item ho hMI hXI hbI but htk
      obtain ⟨d, hd, hrep⟩ := It₀.item i v hi hP
      have rep : Rep h' X d v := (hrep.avoid (It₀.odd 0 _ It₀.st)).move ⟨fun b o hb e => but b o (fun q => hb (.inr q)) (hk b o (fun m => hb (.inl (S.mx b m))) (fun q => hb (.inl (q ▸ hXD))) (fun q => hb (.inr q)) e), fun _ _ y => .inl y⟩
      have rD₂ : Reps h' X done₁ vs₁ := rD.but ho but
      have pD₂ : h'.PlainList Dl vs₁.toArray := by obtain ⟨nD, p⟩ := pD; exact ⟨nD, but _ _ hDI p⟩
      have hdrop : items.drop i = d :: items.drop (i + 1) := by
        obtain ⟨hlt, e⟩ := List.getElem?_eq_some_iff.mp hd
        rw [List.drop_eq_getElem_cons hlt, e]
      rw [hdrop] at hrest
      unfold pforeach at hrest
      obtain ⟨a, ha, hrest⟩ := Option.bind_eq_some_iff.mp hrest
      obtain ⟨b, hb, hrest⟩ := Option.bind_eq_some_iff.mp hrest
      cases hrest
      rw [pturn_cons] at ha
      split at ha
      · rename_i hown
        simp only [Bool.and_eq_true, Option.isNone_iff_eq_none] at hown
        obtain ⟨hnone, hown⟩ := hown
        have sub : ∀ y u, ρ.lookup y = some u → (ρ.set x (false, d)).lookup y = some u := by
          intro y u e
          rw [PEnv.lookup_set]
          by_cases hy : y = x
          · subst hy; rw [hnone] at e; cases e
          · rw [if_neg hy]; exact e
        refine wpAny_assign_Name (S₂.assign (o := false) hown (Own.known hown) rep.weak (fun _ => rep) (fun h => nomatch h) fun s₃ S₃ st₃ _ => ?_)
        have g₃ := gb.grow S₃.keep
        have rD₃ : Reps s₃.heap X done₁ vs₁ := rD₂.move (st₃.move S.mx)
        have pD₃ : s₃.heap.PlainList Dl vs₁.toArray := by obtain ⟨nD, p⟩ := pD₂; exact ⟨nD, st₃.kept _ _ hMD p⟩
        have t₃ : s₁.toks ≤ s₃.toks := Nat.le_trans htk st₃.toks
        have old₃ : ∀ b o, ¬ M b → b ≠ I → s₁.heap.get? b = some o → s₃.heap.get? b = some o := fun b o hm hi e => st₃.kept b o hm (but b o hi e)
        have go : ∀ {s₄ : Shared} {vs₄ : List Value}, St sc env (Own sc) base X M (ρ.set x (false, d)) s₄ → s₄.heap.PlainList Dl vs₄.toArray → Reps s₄.heap X (done₁ ++ a) vs₄ →
            (∀ b o, ¬ M b → b ≠ Dl → s₃.heap.get? b = some o → s₄.heap.get? b = some o) → s₃.toks ≤ s₄.toks →
            ∃ m, m < n + 1 - i ∧ ∃ i done₁ vs₁ rest, m = n + 1 - i ∧ i ≤ n ∧ Sx i s₄.heap ∧ St sc env (Own sc) base X M ρ s₄ ∧ s₄.heap.PlainList Dl vs₁.toArray ∧ Reps s₄.heap X done₁ vs₁ ∧
              pforeach (pturn sc ev nF elt (⟨.Name x px, iter, ifs, 0⟩ :: gs) ρ) (items.drop i) = some rest ∧ done₁ ++ rest = done ++ out ∧ (∀ b o, ¬ M b → b ≠ Dl → b ≠ I → s.heap.get? b = some o → s₄.heap.get? b = some o) ∧ s.toks ≤ s₄.toks := by
          intro s₄ vs₄ S₄ p₄ r₄ k₄ t₄
          refine ⟨n + 1 - (i + 1), by omega, i + 1, done₁ ++ a, vs₄, b, rfl, hi, ?_, S₄.sub sub, p₄, r₄, hb, by rw [List.append_assoc]; exact heq, fun b o hm hd hi e => k₄ b o hm hd (old₃ b o hm hi (hk b o hm hd hi e)), Nat.le_trans ht (Nat.le_trans t₃ t₄)⟩
          exact It₀.walks.frame (i + 1) h' s₄.heap hst' fun b hb o e => k₄ b o (hfree b hb) (fun q => hDf (q ▸ hb)) (st₃.kept b o (hfree b hb) e)
        have hl : done₁.length + a.length + b.length ≤ 1000000 := by
          have := congrArg List.length heq
          simp only [List.length_append] at this
          omega
        split at ha
        · rename_i hfil
          refine tests_ok (pt_ok hev hu nF) hfil S₃ g₃ fun s₄ g₄ t₄ => ?_
          rw [if_pos rfl]
          have S₄ := S₃.grow g₄ t₄
          have G₄ := g₃.grow g₄.heap
          have rD₄ := rD₃.grow g₄.heap
          have pD₄ : s₄.heap.PlainList Dl vs₁.toArray := by obtain ⟨nD, p⟩ := pD₃; exact ⟨nD, g₄.heap _ _ p⟩
          cases gs with
          | nil =>
            dsimp only at ha
            unfold EmitOk
            have hn : gens[k + 1]? = none := by simpa using hg1
            simp only [hn]
            split at ha
            · rename_i v' hv'
              cases ha
              refine hev hv' S₄ G₄ fun y s₅ g₅ t₅ w₅ r₅ => ?_
              have S₅ := S₄.grow g₅ t₅
              have pD₅ : s₅.heap.PlainList Dl vs₁.toArray := by obtain ⟨nD, p⟩ := pD₄; exact ⟨nD, g₅.heap _ _ p⟩
              have hsz : vs₁.toArray.size ≤ sizeLine := by
                have := rD.length
                simp only [List.size_toArray, this, PySem.sizeLine_eq]
                simp only [List.length_cons, List.length_nil] at hl
                omega
              refine wpAny_list_append_plain pD₅ (fun h₆ p₆ sb₆ => ?_) hsz
              have hsome : (h₆.get? Dl).isSome := Heap.PlainList.get p₆
              have S₆ := S₅.over (tk := s₅.toks) hXD hMD hbD sb₆ ⟨_, pD₅⟩ hsome (Nat.le_refl _)
              have r₆ : Reps h₆ X (done₁ ++ [v']) (vs₁ ++ [y]) := (Reps.append (rD₄.grow g₅.heap) (.cons (r₅ rfl) .nil)).upd hXD sb₆
              refine go (s₄ := { s₅ with heap := h₆ }) (vs₄ := vs₁ ++ [y]) S₆ (by simpa using p₆) r₆ (fun b o _ hd e => (sb₆.2 b hd).trans (g₅.heap b o (g₄.heap b o e))) (Nat.le_trans t₄ t₅)
            · cases ha
          | cons g' gs' => cases ha
        · rename_i hfil
          cases ha
          refine tests_ok (pt_ok hev hu nF) hfil S₃ g₃ fun s₄ g₄ t₄ => ?_
          rw [if_neg Bool.false_ne_true]
          exact go (S₃.grow g₄ t₄) (by obtain ⟨nD, p⟩ := pD₃; exact ⟨nD, g₄.heap _ _ p⟩) (by rw [List.append_nil]; exact rD₃.grow g₄.heap) (fun b o _ _ e => g₄.heap b o e) t₄
        · cases ha
      · cases ha
    · refine Grow.toksOf (It₀.walks.done s₁ _ E hst fun h' tk hkeep htk => ?_)
      have but : But I s₁.heap h' := fun b o hb e => hkeep b o (by simpa using hb) e
      have hnil : items.drop i = [] := by rw [It₀.hn]; exact List.drop_length
      rw [hnil] at hrest
      unfold pforeach at hrest
      cases hrest
      refine hR _ vs₁ (S₁.item ho hMI hXI hbI but htk) ?_ ?_ (fun b o hm hd hi e => but b o hi (hk b o hm hd hi e)) (Nat.le_trans ht htk)
      · obtain ⟨nD, p⟩ := pD; exact ⟨nD, but _ _ hDI p⟩
      · rw [← heq, List.append_nil]; exact rD.but ho but
end
end Mine
end
section
open PySem PySem.W PyProof.Rows
set_option Elab.async false
namespace Mine
noncomputable def closeL (cs : List (Str × Addr)) : List (Str × NameKind) → List (Str × Addr) → List (Str × Addr)
  | [], acc => acc
  | (n, k) :: r, acc => if k == .free then (match cs.lookup n with
    | some c => closeL cs r ((n, c) :: acc)
    | none => closeL cs r acc) else closeL cs r acc
theorem closeL_mem {cs : List (Str × Addr)} : ∀ {names : List (Str × NameKind)} {acc : List (Str × Addr)} {x : Str} {c : Addr}, (closeL cs names acc).lookup x = some c → (cs.lookup x = some c ∧ (x, NameKind.free) ∈ names) ∨ acc.lookup x = some c
  | [], acc, x, c, h => .inr h
  | (n, k) :: r, acc, x, c, h => by
    unfold closeL at h
    split at h
    · rename_i hk
      obtain rfl : k = .free := by simpa using hk
      split at h
      · rename_i c' hc'
        rcases closeL_mem h with ⟨a, b⟩ | a
        · exact .inl ⟨a, List.mem_cons_of_mem _ b⟩
        · rw [List.lookup_cons] at a
          cases hq : x == n with
          | true =>
            rw [hq] at a; cases a
            obtain rfl : x = n := eq_of_beq hq
            exact .inl ⟨hc', List.mem_cons_self⟩
          | false => rw [hq] at a; exact .inr a
      · rcases closeL_mem h with ⟨a, b⟩ | a
        · exact .inl ⟨a, List.mem_cons_of_mem _ b⟩
        · exact .inr a
    · rcases closeL_mem h with ⟨a, b⟩ | a
      · exact .inl ⟨a, List.mem_cons_of_mem _ b⟩
      · exact .inr a
theorem closeL_acc {cs : List (Str × Addr)} {x : Str} {c : Addr} (hc : cs.lookup x = some c) : ∀ {names : List (Str × NameKind)} {acc : List (Str × Addr)}, (acc.lookup x = some c ∨ (x, NameKind.free) ∈ names) → (closeL cs names acc).lookup x = some c
  | [], acc, h => by
    rcases h with h | h
    · exact h
    · cases h
  | (n, k) :: r, acc, h => by
    unfold closeL
    split
    · split
      · rename_i c' hc'
        refine closeL_acc hc ?_
        by_cases hx : x = n
        · subst hx
          rw [hc] at hc'; cases hc'
          exact .inl (by simp [List.lookup_cons])
        · rcases h with h | h
          · refine .inl ?_
            rw [List.lookup_cons, beq_eq_false_iff_ne.mpr hx]; exact h
          · rcases List.mem_cons.mp h with e | h
            · cases e; exact (hx rfl).elim
            · exact .inr h
      · rename_i hc'
        refine closeL_acc hc ?_
        rcases h with h | h
        · exact .inl h
        · rcases List.mem_cons.mp h with e | h
          · cases e; rw [hc] at hc'; cases hc'
          · exact .inr h
    · rename_i hk
      refine closeL_acc hc ?_
      rcases h with h | h
      · exact .inl h
      · rcases List.mem_cons.mp h with e | h
        · cases e; exact (hk rfl).elim
        · exact .inr h
theorem closure_ok {scope : Scope} {env : Env} (h : ∀ x ∈ scope.names, x.2 = .free → ∃ c, env.cells.lookup x.1 = some c) : closureFor scope env = pure (closeL env.cells scope.names []) := by
  have key : ∀ (names : List (Str × NameKind)) (acc : List (Str × Addr)) (f : Str × NameKind → List (Str × Addr) → Sem (ForInStep (List (Str × Addr)))),
      (∀ name kind cs, f (name, kind) cs = if kind == .free then (do let c ← cellOf env name; pure (.yield ((name, c) :: cs))) else pure (.yield cs)) → (∀ x ∈ names, x.2 = .free → ∃ c, env.cells.lookup x.1 = some c) →
      (forIn names acc f : Sem (List (Str × Addr))) = pure (closeL env.cells names acc) := by
    intro names
    induction names with
    | nil => intro acc f _ _; rfl
    | cons p r ih =>
      intro acc f hf hc
      obtain ⟨n, k⟩ := p
      rw [List.forIn_cons, hf]
      unfold closeL
      cases hk : (k == NameKind.free) with
      | false =>
        simp only [Bool.false_eq_true, if_false]
        exact ih acc f hf fun x hx => hc x (List.mem_cons_of_mem _ hx)
      | true =>
        obtain ⟨c, e⟩ := hc (n, k) List.mem_cons_self (by simpa using hk)
        have e' : env.cells.lookup n = some c := e
        have e2 : cellOf env n = pure c := by unfold cellOf; rw [e']
        simp only [e', e2, if_true]
        exact ih _ f hf fun x hx => hc x (List.mem_cons_of_mem _ hx)
  show ((forIn scope.names [] _ : Sem (List (Str × Addr))) >>= fun cs => pure cs) = _
  rw [key scope.names [] _ ?_ h]
  · rfl
  · intro name kind cs
    cases hk : kind == NameKind.free <;> simp [hk]
theorem cellsFrom_append : ∀ (names : List (Str × NameKind)) (n : Nat) (acc : List (Str × Addr)), cellsFrom n names acc = cellsFrom n names [] ++ acc
  | [], _, acc => rfl
  | (x, k) :: r, n, acc => by
    unfold cellsFrom
    split
    · rw [cellsFrom_append r (n + 1) ((x, n) :: acc), cellsFrom_append r (n + 1) [(x, n)], List.append_assoc]; rfl
    · exact cellsFrom_append r n acc
theorem cellsFrom_mem : ∀ {names : List (Str × NameKind)} {n : Nat} {x : Str} {c : Addr}, (x, c) ∈ cellsFrom n names [] → (x, NameKind.cell) ∈ names
  | [], n, x, c, h => by cases h
  | (y, k) :: r, n, x, c, h => by
    unfold cellsFrom at h
    split at h
    · rename_i hk
      obtain rfl : k = .cell := by simpa using hk
      rw [cellsFrom_append] at h
      rcases List.mem_append.mp h with h | h
      · exact List.mem_cons_of_mem _ (cellsFrom_mem h)
      · simp only [List.mem_cons, List.not_mem_nil, or_false] at h
        cases h; exact List.mem_cons_self
    · exact List.mem_cons_of_mem _ (cellsFrom_mem h)
theorem lookup_of_key {α : Type} : ∀ {l : List (Str × α)} {x : Str} {c : α}, (x, c) ∈ l → ∃ c', l.lookup x = some c'
  | (y, d) :: r, x, c, h => by
    rw [List.lookup_cons]
    cases hq : x == y with
    | true => exact ⟨_, rfl⟩
    | false =>
      rcases List.mem_cons.mp h with e | h
      · cases e; simp at hq
      · exact lookup_of_key h
theorem cellsFrom_has : ∀ {names : List (Str × NameKind)} {n : Nat} {x : Str}, (x, NameKind.cell) ∈ names → ∃ c, (cellsFrom n names []).lookup x = some c := by
  have : ∀ {names : List (Str × NameKind)} {n : Nat} {x : Str}, (x, NameKind.cell) ∈ names → ∃ c, (x, c) ∈ cellsFrom n names [] := by
    intro names
    induction names with
    | nil => intro n x h; cases h
    | cons p r ih =>
      intro n x h
      obtain ⟨y, k⟩ := p
      unfold cellsFrom
      split
      · rename_i hk
        rw [cellsFrom_append]
        rcases List.mem_cons.mp h with e | h
        · cases e; exact ⟨n, List.mem_append_right _ List.mem_cons_self⟩
        · obtain ⟨c, hc⟩ := ih (n := n + 1) h
          exact ⟨c, List.mem_append_left _ hc⟩
      · rename_i hk
        rcases List.mem_cons.mp h with e | h
        · cases e; simp at hk
        · exact ih h
  intro names n x h
  obtain ⟨c, hc⟩ := this (n := n) h
  exact lookup_of_key hc
theorem distinct_lookup : ∀ {l : List (Str × NameKind)} {x : Str} {k : NameKind}, distinct l = true → (x, k) ∈ l → l.lookup x = some k
  | (y, j) :: r, x, k, hd, h => by
    unfold distinct at hd
    simp only [Bool.and_eq_true, Option.isNone_iff_eq_none] at hd
    rw [List.lookup_cons]
    rcases List.mem_cons.mp h with e | h
    · cases e; simp
    · have := distinct_lookup hd.2 h
      cases hq : x == y with
      | true =>
        obtain rfl : x = y := eq_of_beq hq
        rw [hd.1] at this; cases this
      | false => exact this
theorem lookup_relabel {env : Env} : ∀ {names : List (Str × NameKind)} {x : Str} {k : NameKind}, names.lookup x = some k →
    (names.map fun (n, k) => if (k == NameKind.free && env.scope.kind == .function && env.kindOf n == some .cell) then (n, NameKind.cell) else (n, k)).lookup x =
      some (if (k == NameKind.free && env.scope.kind == .function && env.kindOf x == some .cell) = true then .cell else k)
  | [], _, _, h => by simp at h
  | (n, j) :: r, x, k, h => by
    have ih := @lookup_relabel env r x k
    show List.lookup x ((if (j == NameKind.free && env.scope.kind == .function && env.kindOf n == some .cell) = true then (n, NameKind.cell) else (n, j)) :: _) = _
    rw [List.lookup_cons] at h
    cases hx : x == n with
    | true =>
      rw [hx] at h; cases h
      obtain rfl : x = n := eq_of_beq hx
      by_cases hc : (j == NameKind.free && env.scope.kind == .function && env.kindOf x == some .cell) = true
      · rw [if_pos hc, if_pos hc, List.lookup_cons, beq_self_eq_true]
      · rw [if_neg hc, if_neg hc, List.lookup_cons, beq_self_eq_true]
    | false =>
      rw [hx] at h
      by_cases hc : (j == NameKind.free && env.scope.kind == .function && env.kindOf n == some .cell) = true
      · rw [if_pos hc, List.lookup_cons, hx]; exact ih h
      · rw [if_neg hc, List.lookup_cons, hx]; exact ih h
theorem inComp_lookup {scope : List (Str × NameKind)} : ∀ {ρ : PEnv} {x : Str} {u : Bool × D}, (inComp scope ρ).lookup x = some u → ρ.lookup x = some u ∧ scope.lookup x = some .free
  | [], x, u, h => by simp [inComp] at h
  | (y, v) :: r, x, u, h => by
    unfold inComp at h
    rw [List.filter_cons] at h
    split at h
    · rename_i hp
      rw [List.lookup_cons] at h ⊢
      cases hx : x == y with
      | true =>
        rw [hx] at h; cases h
        obtain rfl : x = y := eq_of_beq hx
        exact ⟨rfl, by simpa using hp⟩
      | false => rw [hx] at h; exact inComp_lookup h
    · rename_i hp
      have ih := inComp_lookup (scope := scope) (ρ := r) h
      rw [List.lookup_cons]
      cases hx : x == y with
      | true =>
        obtain rfl : x = y := eq_of_beq hx
        simp only [decide_eq_true_eq] at hp
        exact (hp ih.2).elim
      | false => exact ih
end Mine
end
section
open PySem PySem.W PyProof.Rows
set_option Elab.async false
namespace Mine
noncomputable def compE (scope : Scope) (env : Env) (C : Addr) : Env :=
  { scope := relabel scope env, locals := C, globals := env.globals, cells := cellsFrom (C + 1) scope.names (closeL env.cells scope.names []), qual := env.qual, func := none, code := env.code, frame := env.frame, builtins := env.builtins }
structure Ok2 (sc : List (Str × NameKind)) (scope : Scope) : Prop where
  kind : scope.kind = .function
  dist : distinct scope.names = true
  plain : ∀ x k, scope.names.lookup x = some k → (x == ("__debug__" : Str)) = false ∧ (x == ("__classdict__" : Str)) = false
  free : ∀ x, (x, NameKind.free) ∈ scope.names → ∃ k, sc.lookup x = some k ∧ (k = .cell ∨ k = .free)
theorem compOk_is {sc : List (Str × NameKind)} {scope : Scope} (h : compOk sc scope = true) : Ok2 sc scope := by
  unfold compOk at h
  simp only [Bool.and_eq_true, decide_eq_true_eq, List.all_eq_true] at h
  obtain ⟨⟨h1, h2⟩, h3⟩ := h
  refine ⟨h1, h2, fun x k hx => ?_, fun x hx => ?_⟩
  · have := (h3 (x, k) (mem_of_lookup hx)).1
    unfold plainName at this
    simpa using this
  · have := (h3 (x, .free) hx).2
    simp only [Bool.or_eq_true, Bool.not_eq_true'] at this
    rcases this with this | this
    · simp at this
    · unfold caught at this
      split at this
      · exact ⟨_, by assumption, .inl rfl⟩
      · exact ⟨_, by assumption, .inr rfl⟩
      · cases this
section
variable {prog : Program} {w : World} {mg mb : Str → Option Value} {fns : List (Str × Addr × Obj)} {G : List (Str × (List D → Option D))} {A : Around} {sc : List (Str × NameKind)} {ev : Ev}
variable {env : Env} {tg : Str → Prop} {base : Shared} {X M : Addr → Prop} {ρ : PEnv} {s : Shared} {E : Value → Shared → Prop}
theorem St.frees (S : St sc env tg base X M ρ s) {scope : Scope} (O : Ok2 sc scope) : ∀ x ∈ scope.names, x.2 = .free → ∃ c, env.cells.lookup x.1 = some c := by
  rintro ⟨x, k⟩ hx rfl
  obtain ⟨k, h1, h2⟩ := O.free x hx
  exact S.caps x k h1 h2
noncomputable def Kx (s₂ : Shared) (scope : Scope) (b : Addr) : Prop := b = s₂.heap.objs.size + 1 ∨ ∃ x, (cellsFrom (s₂.heap.objs.size + 2) scope.names []).lookup x = some b
theorem comp_state (S : St sc env tg base X M ρ s) (gb : GOk mg mb fns s.heap) {scope : Scope} (O : Ok2 sc scope) {s₂ : Shared} (g : Grow s s₂) (t : s.toks ≤ s₂.toks) {h₄ : Heap}
    (hh : h₄ = pushCells ((s₂.heap.push { cls := .type "list", data := .seq #[] }).push { cls := .type "dict", data := .dict #[] }) scope.names) :
    St scope.names (compE scope env (s₂.heap.objs.size + 1)) (Own scope.names) s (fun b => (X b ∨ b = s₂.heap.objs.size) ∨ Kx s₂ scope b) (Kx s₂ scope) (inComp scope.names ρ) { s₂ with heap := h₄ } := by
  have hC : (s₂.heap.push { cls := .type "list", data := .seq #[] }).objs.size = s₂.heap.objs.size + 1 := Heap.size_push ..
  have gr : Grown s₂.heap h₄ := fun b o e => hh ▸ pushCells_keeps _ _ b o (Heap.get?_push_of_some _ (Heap.get?_push_of_some _ e))
  have gs : Grown s.heap h₄ := fun b o e => gr b o (g.heap b o e)
  have ok := cellsFrom_ok scope.names ((s₂.heap.push { cls := .type "list", data := .seq #[] }).push { cls := .type "dict", data := .dict #[] }) (s₂.heap.objs.size + 2) [] ⟨fun _ _ hm => (nomatch hm), List.Pairwise.nil⟩ (by rw [Heap.size_push, hC]; exact Nat.le_refl _)
  rw [Heap.size_push, hC, ← hh] at ok
  have hns : h₄.Ns (s₂.heap.objs.size + 1) (fun _ => none) := by
    have := (Heap.Ns.new (s₂.heap.push { cls := .type "list", data := .seq #[] }) (.type "dict"))
    rw [hC] at this
    exact this.keeps (hh ▸ pushCells_keeps _ _)
  have hnew : ∀ b, Kx s₂ scope b → s₂.heap.objs.size < b := by
    rintro b (rfl | ⟨x, e⟩)
    · exact Nat.lt_succ_self _
    · have := (ok.empty x b (mem_of_lookup e)).2
      omega
  have hnone : ∀ b, s₂.heap.objs.size ≤ b → s.heap.get? b = none := fun b hb => by
    cases e : s.heap.get? b with
    | none => rfl
    | some o => exact absurd (Heap.lt_size (g.heap b o e)) (Nat.not_lt.mpr hb)
  have hXlt : ∀ b, X b → b < s₂.heap.objs.size := fun b hb => by
    obtain ⟨o, e⟩ := Option.isSome_iff_exists.mp (S.there b hb)
    exact Heap.lt_size (g.heap b o e)
  have look : ∀ x c, (compE scope env (s₂.heap.objs.size + 1)).cells.lookup x = some c → (cellsFrom (s₂.heap.objs.size + 2) scope.names []).lookup x = some c ∨ (env.cells.lookup x = some c ∧ (x, NameKind.free) ∈ scope.names) := by
    intro x c e
    have e' : (cellsFrom (s₂.heap.objs.size + 1 + 1) scope.names (closeL env.cells scope.names [])).lookup x = some c := e
    rw [cellsFrom_append, List.lookup_append] at e'
    cases q : (cellsFrom (s₂.heap.objs.size + 1 + 1) scope.names []).lookup x with
    | some c' => rw [q] at e'; cases e'; exact .inl rfl
    | none =>
      rw [q, Option.none_or] at e'
      rcases closeL_mem e' with a | a
      · exact .inr a
      · simp at a
  have freeLook : ∀ x c, (x, NameKind.free) ∈ scope.names → env.cells.lookup x = some c → (compE scope env (s₂.heap.objs.size + 1)).cells.lookup x = some c := by
    intro x c hx e
    show (cellsFrom (s₂.heap.objs.size + 1 + 1) scope.names (closeL env.cells scope.names [])).lookup x = some c
    rw [cellsFrom_append, List.lookup_append]
    cases q : (cellsFrom (s₂.heap.objs.size + 1 + 1) scope.names []).lookup x with
    | some c' =>
      have h1 := distinct_lookup O.dist (cellsFrom_mem (mem_of_lookup q))
      rw [distinct_lookup O.dist hx] at h1; cases h1
    | none => rw [Option.none_or]; exact closeL_acc e (.inr hx)
  have kinds : ∀ x k, scope.names.lookup x = some k → (compE scope env (s₂.heap.objs.size + 1)).kindOf x = some k ∨ (k = .free ∧ (compE scope env (s₂.heap.objs.size + 1)).kindOf x = some .cell) := by
    intro x k e
    have := lookup_relabel (env := env) e
    have e' : (compE scope env (s₂.heap.objs.size + 1)).kindOf x = _ := this
    rw [e']
    split
    · rename_i hc
      simp only [Bool.and_eq_true, beq_iff_eq] at hc
      exact .inr ⟨hc.1.1, rfl⟩
    · exact .inl rfl
  have old : ∀ x o d, (inComp scope.names ρ).lookup x = some (o, d) → ∃ v, Look env s.heap x v ∧ Look (compE scope env (s₂.heap.objs.size + 1)) h₄ x v := by
    intro x o d e
    obtain ⟨e1, e2⟩ := inComp_lookup e
    have hx := mem_of_lookup e2
    obtain ⟨v, l, _⟩ := S.vars x o d e1
    refine ⟨v, l, ?_⟩
    obtain ⟨k, h1, h2⟩ := O.free x hx
    rcases l with ⟨k1, m, n, e⟩ | ⟨k1, c, e, i⟩
    · rcases S.names x k h1 with q | ⟨_, q⟩
      · rw [k1] at q; rcases h2 with rfl | rfl <;> cases q
      · rw [k1] at q; cases q
    · refine .inr ⟨?_, c, freeLook x c hx e, i.keeps gs⟩
      rcases kinds x _ e2 with q | ⟨_, q⟩
      · exact .inr q
      · exact .inl q
  refine ⟨O.kind, S.globals, S.builtins, kinds, O.plain, ?_, ?_, ⟨_, hns⟩, ?_, ?_, fun b hb => .inr hb, ?_, fun b hb => hnone b (Nat.le_of_lt (hnew b hb)), gs, .inl rfl, ?_, ?_, ?_, ?_, g.gens, g.drawn, g.os, Nat.lt_of_lt_of_le S.toks t⟩
  · intro x o d e
    exact ⟨_, (inComp_lookup e).2⟩
  · intro x k e hk
    rcases hk with rfl | rfl
    · obtain ⟨c, hc⟩ := cellsFrom_has (n := s₂.heap.objs.size + 1 + 1) (mem_of_lookup e)
      refine ⟨c, ?_⟩
      show (cellsFrom (s₂.heap.objs.size + 1 + 1) scope.names (closeL env.cells scope.names [])).lookup x = some c
      rw [cellsFrom_append, List.lookup_append, hc]; rfl
    · obtain ⟨c, hc⟩ := S.frees O _ (mem_of_lookup e) rfl
      exact ⟨c, freeLook x c (mem_of_lookup e) hc⟩
  · intro x o d e
    obtain ⟨v, l, l'⟩ := old x o d e
    obtain ⟨e1, e2⟩ := inComp_lookup e
    obtain ⟨v', l2, hw, hr, hf⟩ := S.vars x o d e1
    have := l.det l2
    subst this
    have mv : Move s.heap h₄ X (fun b => (X b ∨ b = s₂.heap.objs.size) ∨ Kx s₂ scope b) := ⟨fun b o _ e => gs b o e, fun b hb hx => by
      rcases hx with (hx | rfl) | hx
      · exact hx
      · rw [hnone _ (Nat.le_refl _)] at hb; cases hb
      · rw [hnone _ (Nat.le_of_lt (hnew b hx))] at hb; cases hb⟩
    refine ⟨v, l', ?_, fun q => (hr q).move mv, fun q => ?_⟩
    · cases o with
      | false => exact ((hr rfl).move mv).weak
      | true =>
        obtain ⟨a, l, rfl, f1, f2, rfl⟩ := hf rfl
        obtain ⟨b', vs, e1, ⟨n, p⟩, r⟩ := hw.list
        cases e1
        exact ⟨a, vs, rfl, ⟨n, gs _ _ p⟩, r.move mv⟩
    · obtain ⟨a, ll, rfl, f1, f2, rfl⟩ := hf q
      refine ⟨a, ll, rfl, fun h => ?_, fun _ => ?_, rfl⟩
      · unfold Own own at h
        rw [e2] at h; cases h
      · obtain ⟨b', vs, e1, ⟨n, p⟩, r⟩ := hw.list
        cases e1
        rw [p]; rfl
  · intro x y dx dy vx vy ex ey lx ly hne
    obtain ⟨v, l, l'⟩ := old x _ _ ex
    obtain ⟨u, k, k'⟩ := old y _ _ ey
    have e1 := l'.det lx
    have e2 := k'.det ly
    subst e1 e2
    exact S.apart x y dx dy _ _ (inComp_lookup ex).1 (inComp_lookup ey).1 l k hne
  · rintro b ((hb | rfl) | (rfl | ⟨x, e⟩))
    · obtain ⟨o, e⟩ := Option.isSome_iff_exists.mp (S.there b hb)
      show (h₄.get? b).isSome
      rw [gs b o e]; rfl
    · show (h₄.get? _).isSome
      rw [hh, pushCells_keeps _ _ _ _ (Heap.get?_push_of_some _ (Heap.get?_push_size _ rfl))]; rfl
    · obtain ⟨o, _, _, e, _⟩ := hns
      show (h₄.get? _).isSome
      rw [e]; rfl
    · obtain ⟨o, e, _⟩ := (ok.empty x b (mem_of_lookup e)).1
      show (h₄.get? _).isSome
      rw [e]; rfl
  · intro x c e
    rcases look x c e with a | ⟨a, _⟩
    · exact ⟨_, (ok.empty x c (mem_of_lookup a)).1⟩
    · obtain ⟨v, i⟩ := S.cells x c a
      exact ⟨v, i.keeps gs⟩
  · intro x y c ex ey
    rcases look x c ex with a | ⟨a, _⟩ <;> rcases look y c ey with b | ⟨b, _⟩
    · exact name_of_addr ok.apart (mem_of_lookup a) (mem_of_lookup b)
    · have h1 := hnew c (.inr ⟨x, a⟩)
      have h2 := hXlt c (S.cellX y c b)
      exact absurd h2 (Nat.not_lt.mpr (Nat.le_of_lt h1))
    · have h1 := hnew c (.inr ⟨y, b⟩)
      have h2 := hXlt c (S.cellX x c a)
      exact absurd h2 (Nat.not_lt.mpr (Nat.le_of_lt h1))
    · exact S.cellApart x y c a b
  · intro x c e
    rcases look x c e with a | ⟨a, _⟩
    · exact .inr (.inr ⟨x, a⟩)
    · exact .inl (.inl (S.cellX x c a))
  · intro x hx
    unfold Own own at hx
    split at hx
    · rename_i e
      rcases kinds x _ e with q | ⟨q, _⟩
      · exact .inl q
      · cases q
    · rename_i e
      refine .inr ⟨?_, ?_⟩
      · rcases kinds x _ e with q | ⟨q, _⟩
        · exact q
        · cases q
      · obtain ⟨c, hc⟩ := cellsFrom_has (n := s₂.heap.objs.size + 2) (mem_of_lookup e)
        refine ⟨c, ?_, .inr ⟨x, hc⟩⟩
        show (cellsFrom (s₂.heap.objs.size + 1 + 1) scope.names (closeL env.cells scope.names [])).lookup x = some c
        rw [cellsFrom_append, List.lookup_append, hc]; rfl
    · cases hx
theorem odd_ns {h : Heap} {C : Addr} {m : Str → Option Value} (n : h.Ns C m) : Odd h C := by
  obtain ⟨o, _, _, e, hd, _⟩ := n
  exact ⟨o, e, (fun _ _ q => by rw [hd] at q; cases q), fun _ q => by rw [hd] at q; cases q⟩
noncomputable abbrev pushed (s₂ : Shared) (scope : Scope) : Heap := pushCells ((s₂.heap.push { cls := .type "list", data := .seq #[] }).push { cls := .type "dict", data := .dict #[] }) scope.names
noncomputable abbrev Xx (X : Addr → Prop) (s₂ : Shared) (scope : Scope) (b : Addr) : Prop := (X b ∨ b = s₂.heap.objs.size) ∨ Kx s₂ scope b
theorem pushed_grown (s₂ : Shared) (scope : Scope) : Grown s₂.heap (pushed s₂ scope) := fun b o e => pushCells_keeps _ _ b o (Heap.get?_push_of_some _ (Heap.get?_push_of_some _ e))
theorem kx_fresh {s₂ : Shared} {scope : Scope} {b : Addr} (hb : (s₂.heap.get? b).isSome) : ¬ (b = s₂.heap.objs.size ∨ Kx s₂ scope b) := by
  intro hx
  obtain ⟨o, e⟩ := Option.isSome_iff_exists.mp hb
  have hlt := Heap.lt_size e
  rcases hx with rfl | rfl | ⟨x, e⟩
  · exact Nat.lt_irrefl _ hlt
  · exact absurd hlt (Nat.not_lt.mpr (Nat.le_succ _))
  · have ok := cellsFrom_ok scope.names ((s₂.heap.push { cls := .type "list", data := .seq #[] }).push { cls := .type "dict", data := .dict #[] }) (s₂.heap.objs.size + 2) [] ⟨fun _ _ hm => (nomatch hm), List.Pairwise.nil⟩ (by rw [Heap.size_push, Heap.size_push]; exact Nat.le_refl _)
    rw [Heap.size_push, Heap.size_push] at ok
    have := (ok.empty x b (mem_of_lookup e)).2
    exact absurd hlt (Nat.not_lt.mpr (Nat.le_trans (Nat.le_succ_of_le (Nat.le_succ _)) this))
theorem kx_list {s₂ : Shared} {scope : Scope} : ¬ Kx s₂ scope s₂.heap.objs.size := by
  rintro (hk | ⟨x, e⟩)
  · exact absurd hk (Nat.ne_of_lt (Nat.lt_succ_self _))
  · have ok := cellsFrom_ok scope.names ((s₂.heap.push { cls := .type "list", data := .seq #[] }).push { cls := .type "dict", data := .dict #[] }) (s₂.heap.objs.size + 2) [] ⟨fun _ _ hm => (nomatch hm), List.Pairwise.nil⟩ (by rw [Heap.size_push, Heap.size_push]; exact Nat.le_refl _)
    rw [Heap.size_push, Heap.size_push] at ok
    have := (ok.empty x _ (mem_of_lookup e)).2
    exact absurd this (Nat.not_le.mpr (Nat.lt_succ_of_lt (Nat.lt_succ_self _)))
theorem pushed_list {s₂ : Shared} {scope : Scope} : (pushed s₂ scope).PlainList s₂.heap.objs.size #[] := ⟨_, pushCells_keeps _ _ _ _ (Heap.get?_push_of_some _ (Heap.get?_push_size _ rfl))⟩
theorem xx_move {s₂ : Shared} {scope : Scope} : Move s₂.heap (pushed s₂ scope) X (Xx X s₂ scope) := ⟨fun b o _ e => pushed_grown _ _ b o e, fun b hb hx => by
  rcases hx with (hx | hx) | hx
  · exact hx
  · exact (kx_fresh (scope := scope) hb (.inl hx)).elim
  · exact (kx_fresh hb (.inr hx)).elim⟩
theorem comp_setup (S : St sc env tg base X M ρ s) (gb : GOk mg mb fns s.heap) {scope : Scope} (O : Ok2 sc scope) {s₂ : Shared} (g : Grow s s₂) (t : s.toks ≤ s₂.toks) {elt : Expr} {c : Comprehension} {cs : List Comprehension} {pos : Pos} (hc : okClause c = true) {I : Addr} {out : List D}
    {use : Option (Value → Sem Unit)} {Q : Value → Shared → Prop}
    (hloop : ∀ {R' : Result → Shared → Prop}, St scope.names (compE scope env (s₂.heap.objs.size + 1)) (Own scope.names) s (Xx X s₂ scope) (Kx s₂ scope) (inComp scope.names ρ) { s₂ with heap := pushed s₂ scope } →
      (∀ s' vs', St scope.names (compE scope env (s₂.heap.objs.size + 1)) (Own scope.names) s (Xx X s₂ scope) (Kx s₂ scope) (inComp scope.names ρ) s' → s'.heap.PlainList s₂.heap.objs.size vs'.toArray → Reps s'.heap (Xx X s₂ scope) out vs' → s₂.toks ≤ s'.toks → R' (.ok .next) s') →
      codeAny (model prog w) A (.compLoop (.ListComp elt (c :: cs) scope pos) 0 (.ref I) (.ref s₂.heap.objs.size) (compE scope env (s₂.heap.objs.size + 1))) R' { s₂ with heap := pushed s₂ scope })
    (hself : ∀ {Q : Value → Shared → Prop} {E : Value → Shared → Prop}, Q (.ref I) { s₂ with heap := pushed s₂ scope } → wpAny (model prog w) A (pyIter (.ref I)) Q E { s₂ with heap := pushed s₂ scope })
    (hK : ∀ s' Dl C m, Grow s s' → s.toks ≤ s'.toks → Rep s'.heap X (.list out) (.ref Dl) → s.heap.get? C = none → s'.heap.Ns C m → compPost (model prog w) A E use Q (.ref Dl) C (.ok .next) s') :
    wpAny (model prog w) A (newList []) (fun acc s₃ => wpAny (model prog w) A (newFunctionEnv scope env.globals (closeL env.cells scope.names []) [] env.qual none .none (some env)) (fun cenv s₄ =>
      codeAny (model prog w) A (.compStart (.ListComp elt (c :: cs) scope pos) 0 (.ref I) acc { cenv with scope := relabel scope env }) (compPost (model prog w) A E use Q acc cenv.locals) s₄) E s₃) E s₂ := by
  obtain ⟨x, px, iter, ifs, rfl⟩ := okClause_is hc
  refine wpAny_newObj_type ?_
  simp only [newFunctionEnv, Option.isSome_some, if_true]
  refine wpAny_bind (wpAny_alloc ?_)
  refine wpAny_bind (wpAny_layCells _ (fun name kind cells => by cases hkc : kind == NameKind.cell <;> simp [hkc]) _ _ _ _ ?_)
  refine wpAny_bind (wpAny_pure (wpAny_pure ?_))
  simp only [Heap.size_push]
  have S₄ := comp_state S gb O g t rfl
  have hnone : ∀ b, s₂.heap.objs.size ≤ b → s.heap.get? b = none := fun b hb => by
    cases e : s.heap.get? b with
    | none => rfl
    | some o => exact absurd (Heap.lt_size (g.heap b o e)) (Nat.not_lt.mpr hb)
  refine codeAny_compStart_gen (target := .Name x px) (iter := iter) (ifs := ifs) rfl (hloop S₄ ?_) (hself (hloop S₄ ?_)) <;>
  · intro s' vs' S' p' r' t'
    obtain ⟨m, hm⟩ := S'.ns
    have hr : Rep s'.heap X (.list out) (.ref s₂.heap.objs.size) := by
      unfold Rep
      refine ⟨_, vs', rfl, fun hx => ?_, p', r'.weaken fun b hb => .inl (.inl hb)⟩
      have := S.there _ hx
      rw [hnone _ (Nat.le_refl _)] at this; cases this
    exact hK s' _ _ m ⟨S'.keep, S'.gens, S'.drawn, S'.os⟩ (Nat.le_trans t t') hr (hnone _ (Nat.le_succ _)) hm
theorem listcomp_core (hev : EvOk prog w mg mb fns A sc ev) {scope : Scope} {ev' : Ev} (hev' : EvOk prog w mg mb fns A scope.names ev') {nn : Nat} (W : World0 prog w mg mb fns G nn) (R : Room A nn) {nF : Fu} {elt : Expr} {c : Comprehension} {cs : List Comprehension} {pos : Pos}
    {items out : List D} {d : D} {Q : Value → Shared → Prop} (hok : (compOk sc scope && (c :: cs).all okClause) = true) (S : St sc env tg base X M ρ s) (gb : GOk mg mb fns s.heap)
    (hit : pit sc ev c.iter ρ = some items) (hout : pforeach (pturn scope.names ev' nF elt (c :: cs) (inComp scope.names ρ)) items = some out) (hl : mkL out = some d) {use : Option (Value → Sem Unit)}
    (hK : ∀ s' Dl C m, Grow s s' → s.toks ≤ s'.toks → Rep s'.heap X d (.ref Dl) → s.heap.get? C = none → s'.heap.Ns C m → compPost (model prog w) A E use Q (.ref Dl) C (.ok .next) s') :
    wpAny (model prog w) A (comprehension (.ListComp elt (c :: cs) scope pos) scope env (firstIterPos (c :: cs) pos) (newList []) (firstAsync (c :: cs)) (firstIter (c :: cs) env) use) Q E s := by
  simp only [Bool.and_eq_true, List.all_eq_true] at hok
  obtain ⟨hok, hcl⟩ := hok
  have O := compOk_is hok
  obtain ⟨x, px, iter, ifs, rfl⟩ := okClause_is (hcl c List.mem_cons_self)
  unfold mkL at hl
  split at hl
  · rename_i hlen
    cases hl
    refine wpAny_comprehension_free rfl (fun y => notSet_of_pit hit y) (closure_ok (S.frees O)) O.kind (fun x hx e => distinct_lookup O.dist (show (x.1, NameKind.local) ∈ _ from by obtain ⟨a, b⟩ := x; cases e; exact hx)) ?_
    refine pit_ok hev W R.handled S gb hit fun I fp P Sx n s₂ g t it hI => ?_
    have it' : It prog w A (Xx X s₂ scope) (Kx s₂ scope) items I fp P Sx n (pushed s₂ scope) :=
      { hn := it.hn
        walks := it.walks
        st := it.walks.frame 0 _ _ it.st fun b _ o e => pushed_grown _ _ b o e
        odd := it.odd
        free := fun b hb hx => by
          rcases hx with (hx | hx) | hx
          · exact it.free b hb hx
          · exact kx_fresh (scope := scope) (it.fp b hb) (.inl hx)
          · exact kx_fresh (it.fp b hb) (.inr hx)
        fp := fun b hb => by
          obtain ⟨o, e⟩ := Option.isSome_iff_exists.mp (it.fp b hb)
          rw [pushed_grown _ _ b o e]; rfl
        item := fun i v hi hP => by
          obtain ⟨d, hd, r⟩ := it.item i v hi hP
          exact ⟨d, hd, r.move xx_move⟩ }
    have hIx : ¬ Xx X s₂ scope I := by
      obtain ⟨o, e, _⟩ := it.odd 0 _ it.st
      rintro ((hx | hx) | hx)
      · exact xfree S hI hx
      · exact kx_fresh (scope := scope) (by rw [e]; rfl) (.inl hx)
      · exact kx_fresh (by rw [e]; rfl) (.inr hx)
    refine comp_setup S gb O g t (hcl _ List.mem_cons_self) (fun S₄ h' => ?_) (fun h => it'.walks.self 0 _ _ _ it'.st h) hK
    exact comp_ok (vs := []) (done := []) hev' W R.handled (by have := R.units; omega) gb (.inl (.inr rfl)) kx_list (by
        cases e : s.heap.get? s₂.heap.objs.size with
        | none => rfl
        | some o => exact absurd (Heap.lt_size (g.heap _ o e)) (Nat.lt_irrefl _)) nF elt scope pos _ _ 0 (fun j => by rw [Nat.zero_add]) hcl (by simp) hout S₄ it' hIx hI pushed_list .nil (by simpa using hlen)
      fun s' vs' S' p' r' _ t' => h' s' vs' S' p' (by simpa using r') t'
  · cases hl
theorem listcomp_ok (hev : EvOk prog w mg mb fns A sc ev) {scope : Scope} {ev' : Ev} (hev' : EvOk prog w mg mb fns A scope.names ev') {nn : Nat} (W : World0 prog w mg mb fns G nn) (R : Room A nn) {nF : Fu} {elt : Expr} {c : Comprehension} {cs : List Comprehension} {pos : Pos}
    {items out : List D} {d : D} {Q : Value → Shared → Prop} (hok : (compOk sc scope && (c :: cs).all okClause) = true) (S : St sc env tg base X M ρ s) (gb : GOk mg mb fns s.heap)
    (hit : pit sc ev c.iter ρ = some items) (hout : pforeach (pturn scope.names ev' nF elt (c :: cs) (inComp scope.names ρ)) items = some out) (hl : mkL out = some d) (hQ : Want s X true d Q) :
    wpAny (model prog w) A (eval (.ListComp elt (c :: cs) scope pos) env) Q E s := by
  rw [eval_ListComp]
  refine listcomp_core hev hev' W R hok S gb hit hout hl fun s' Dl C m g t r hC hm => ⟨m, hm, fun h' hs' => ?_⟩
  have k : But C s'.heap h' := fun b o hb e => (hs'.2 b hb).trans e
  have r' : Rep h' X d (.ref Dl) := r.but (odd_ns hm) k
  exact hQ _ { s' with heap := h' } ⟨fun b o e => k b o (fun q => by rw [q, hC] at e; cases e) (g.heap b o e), g.gens, g.drawn, g.os⟩ t r'.weak fun _ => r'
end
end Mine
end
section
open PySem PySem.W PyProof.Rows
set_option Elab.async false
namespace Mine
section
variable {prog : Program} {w : World} {mg mb : Str → Option Value} {fns : List (Str × Addr × Obj)} {G : List (Str × (List D → Option D))} {A : Around} {sc : List (Str × NameKind)} {ev : Ev}
variable {env : Env} {tg : Str → Prop} {base : Shared} {X M : Addr → Prop} {ρ : PEnv} {s : Shared} {E : Value → Shared → Prop}
theorem binop_okW {op : Operator} {a b d : D} {va vb : Value} {Q : Value → Shared → Prop} (t : There X s.heap) (hp : pbin op a b = some d) (ha : Weak s.heap X a va) (hb : Weak s.heap X b vb) (h : Want s X true d Q) : wpAny (model prog w) A (binaryOp op va vb) Q E s :=
  Grow.toksOf (binop_ok t hp ha hb fun v s' g r k => h v s' g k r.weak fun _ => r)
theorem Want.after {s' : Shared} {o : Bool} {d : D} {Q : Value → Shared → Prop} (h : Want s X o d Q) (g : Grow s s') (t : s.toks ≤ s'.toks) : Want s' X o d Q :=
  fun v s₂ g₂ t₂ w r => h v s₂ (g.trans g₂) (Nat.le_trans t t₂) w r
theorem peStep_ok {nn : Nat} (W : World0 prog w mg mb fns G nn) (R : Room A nn) {evOf : List (Str × NameKind) → Ev} (hev : ∀ sc, EvOk prog w mg mb fns A sc (evOf sc)) (n : Fu) (sc : List (Str × NameKind)) :
    EvOk prog w mg mb fns A sc (peStep G evOf n sc) := by
  have hu : A.units + 41 < cLine := by have := R.units; omega
  intro e ρ o d h env tg base X M s Q E S g hQ
  unfold peStep at h
  split at h
  · obtain ⟨d', hd, h⟩ := Option.map_eq_some_iff.mp h
    cases h
    exact Grow.toksOf (const_ok hd fun v s' g r k => hQ v s' g k r.weak fun _ => r)
  · obtain ⟨⟨o', d'⟩, hd, h⟩ := Option.map_eq_some_iff.mp h
    cases h
    exact name_ok S hd fun v _ hw hr => hQ v s (.refl s) (Nat.le_refl _) hw fun q => hr (by simpa using q)
  · split at h
    · obtain ⟨⟨o', d'⟩, hd, h⟩ := Option.bind_eq_some_iff.mp h
      dsimp only at h
      split at h
      · cases h
        refine wpAny_UnaryOp (hev sc hd S g fun v s₁ g₁ t₁ w₁ _ => ?_)
        obtain ⟨t, rfl⟩ := w₁.int
        have g₂ : Grow s₁ { s₁ with toks := s₁.toks + 1 } := .tok
        exact P.neg_int (hQ _ _ (g₁.trans g₂) (Nat.le_trans t₁ (Nat.le_succ _)) (Rep.weak .int) fun _ => .int)
      · cases h
    · cases h
  · obtain ⟨⟨o', a⟩, ha, h⟩ := Option.bind_eq_some_iff.mp h
    obtain ⟨⟨o'', b⟩, hb, h⟩ := Option.bind_eq_some_iff.mp h
    obtain ⟨d', hd, h⟩ := Option.map_eq_some_iff.mp h
    cases h
    exact wpAny_BinOp (hev sc ha S g fun va s₁ g₁ t₁ w₁ _ => hev sc hb (S.grow g₁ t₁) (g.grow g₁.heap) fun vb s₂ g₂ t₂ w₂ _ =>
      binop_okW ((S.there.grow g₁.heap).grow g₂.heap) hd (w₁.grow g₂.heap) w₂ ((hQ.after g₁ t₁).after g₂ t₂))
  · obtain ⟨op, hop, h1⟩ := Option.bind_eq_some_iff.mp h
    clear h
    obtain ⟨r, hr, h⟩ := Option.bind_eq_some_iff.mp h1
    clear h1
    obtain rfl := oneOf_is hop
    obtain rfl := oneOf_is hr
    split at h
    · cases h
    · rename_i hm
      obtain ⟨b, hb, h⟩ := Option.map_eq_some_iff.mp h
      cases h
      exact wpAny_Compare1 (compare_ok (hev sc) hu hb S g fun s₁ g₁ t₁ => hQ _ s₁ g₁ t₁ (Rep.weak .bool) fun _ => .bool) (by simpa using hm)
  · obtain ⟨c, hc, h⟩ := Option.bind_eq_some_iff.mp h
    refine wpAny_IfExp (pt_ok (hev sc) hu n hc S g fun s₁ g₁ t₁ => ?_)
    cases c with
    | true => simp only [if_true] at h ⊢; exact hev sc h (S.grow g₁ t₁) (g.grow g₁.heap) (hQ.after g₁ t₁)
    | false => simp only [Bool.false_eq_true, if_false] at h ⊢; exact hev sc h (S.grow g₁ t₁) (g.grow g₁.heap) (hQ.after g₁ t₁)
  · split at h
    · split at h
      · split at h
        · rename_i hk
          split at h
          · rename_i F hF
            obtain ⟨ds, hds, h⟩ := Option.bind_eq_some_iff.mp h
            obtain ⟨d', hd, h⟩ := Option.map_eq_some_iff.mp h
            cases h
            exact callG_ok (hev sc) W R S g hk hF hds hd hQ
          · obtain ⟨ds, hds, h⟩ := Option.bind_eq_some_iff.mp h
            obtain ⟨d', hd, h⟩ := Option.map_eq_some_iff.mp h
            cases h
            exact callB_ok (hev sc) W R S g hk hds hd hQ
        · cases h
      · split at h
        · cases h
        · split at h
          · rename_i hc
            simp only [Bool.and_eq_true] at hc
            obtain ⟨a, ha, h⟩ := Option.bind_eq_some_iff.mp h
            obtain ⟨ds, hds, h⟩ := Option.bind_eq_some_iff.mp h
            obtain ⟨d', hd, h⟩ := Option.map_eq_some_iff.mp h
            cases h
            exact callM_ok (hev sc) hc.1 hc.2 S g ha hds hd hQ
          · cases h
      · cases h
    · cases h
  · split at h
    · rename_i sl hsl
      obtain ⟨lo, hi, st, p⟩ := sl
      obtain rfl := sliceOf_is hsl
      dsimp only at h
      split at h
      · obtain ⟨a, ha, h⟩ := Option.bind_eq_some_iff.mp h
        obtain ⟨bl, hl, h⟩ := Option.bind_eq_some_iff.mp h
        obtain ⟨bh, hh, h⟩ := Option.bind_eq_some_iff.mp h
        obtain ⟨d', hd, h⟩ := Option.map_eq_some_iff.mp h
        cases h
        exact cut_ok (hev sc) S g ha hl hh hd hQ
      · cases h
    · obtain ⟨a, ha, h⟩ := Option.bind_eq_some_iff.mp h
      obtain ⟨b, hb, h⟩ := Option.bind_eq_some_iff.mp h
      obtain ⟨d', hd, h⟩ := Option.map_eq_some_iff.mp h
      cases h
      exact index_ok (hev sc) S g ha hb hd hQ
  · obtain ⟨ds, hds, h⟩ := Option.bind_eq_some_iff.mp h
    obtain ⟨d', hd, h⟩ := Option.map_eq_some_iff.mp h
    cases h
    exact listW_ok (hev sc) S g hds hd hQ
  · obtain ⟨ds, hds, h⟩ := Option.bind_eq_some_iff.mp h
    split at h
    · rename_i hl
      cases h
      exact tup_ok (hev sc) S g hds hl hQ
    · cases h
  · split at h
    · cases h
    · split at h
      · cases h
      · split at h
        · rename_i hc
          obtain ⟨items, hit, h⟩ := Option.bind_eq_some_iff.mp h
          obtain ⟨out, hout, h⟩ := Option.bind_eq_some_iff.mp h
          obtain ⟨d', hd, h⟩ := Option.map_eq_some_iff.mp h
          cases h
          exact listcomp_ok (hev sc) (hev _) W R hc S g hit hout hd hQ
        · cases h
  · cases h
theorem pe_ok {nn : Nat} (W : World0 prog w mg mb fns G nn) (R : Room A nn) : ∀ (n : Fu) (sc : List (Str × NameKind)), EvOk prog w mg mb fns A sc (pe G n sc)
  | .z, sc => by intro h; unfold pe at h; cases h
  | .s n, sc => peStep_ok W R (pe_ok W R n) n sc
end
end Mine
end
section
open PySem PySem.W PyProof.Rows
set_option Elab.async false
namespace Mine
section
variable {sc : List (Str × NameKind)} {env : Env} {tg : Str → Prop} {base s s' : Shared} {X M : Addr → Prop} {ρ ρ' : PEnv}
theorem Step.widen {X' M' : Addr → Prop} (I : Addr) (a : Step X M s X' M' s') : Step X (fun b => M b ∨ b = I) s X' (fun b => M' b ∨ b = I) s' where
  kept := fun b o h e => a.kept b o (fun m => h (.inl m)) e
  xfree := a.xfree
  mfree := fun b h m => m.elim (fun m => .inl (a.mfree b h m)) .inr
  xkeep := fun b x h => a.xkeep b x fun m => h (.inl m)
  gone := a.gone
  toks := a.toks
theorem Step.item {I : Addr} {h' : Heap} {tk : Nat} (k : But I s.heap h') (hI : (h'.get? I).isSome) (t : s.toks ≤ tk) : Step X (fun b => M b ∨ b = I) s X (fun b => M b ∨ b = I) { s with heap := h', toks := tk } where
  kept := fun b o h e => k b o (fun q => h (.inr q)) e
  xfree := fun _ _ x => x
  mfree := fun _ _ x => x
  xkeep := fun _ x _ => x
  gone := fun b h => by
    by_cases q : b = I
    · subst q; exact hI
    · obtain ⟨o, e⟩ := Option.isSome_iff_exists.mp h
      show (h'.get? b).isSome
      rw [k b o q e]; rfl
  toks := t
theorem Step.fin {X' M' : Addr → Prop} {s₁ s₂ : Shared} {I : Addr} {h' : Heap} {tk : Nat} (there : There X s.heap) (g : Grow s s₁) (t : s.toks ≤ s₁.toks) (hI : s.heap.get? I = none) (a : Step X (fun b => M b ∨ b = I) s₁ X' (fun b => M' b ∨ b = I) s₂) (k : But I s₂.heap h') (t' : s₂.toks ≤ tk) :
    Step X M s X' M' { s₂ with heap := h', toks := tk } := by
  have ne : ∀ b, (s.heap.get? b).isSome → b ≠ I := fun b h q => by rw [q, hI] at h; cases h
  have up : ∀ b, (s.heap.get? b).isSome → (s₁.heap.get? b).isSome := fun b h => by obtain ⟨o, e⟩ := Option.isSome_iff_exists.mp h; rw [g.heap b o e]; rfl
  refine ⟨fun b o h e => ?_, fun b h x => a.xfree b (up b h) x, fun b h m => ?_, fun b x h => ?_, fun b h => ?_, Nat.le_trans t (Nat.le_trans a.toks t')⟩
  · have hb := ne b (by rw [e]; rfl)
    exact k b o hb (a.kept b o (fun m => m.elim h hb) (g.heap b o e))
  · rcases a.mfree b (up b h) (.inl m) with q | q
    · exact q
    · exact (ne b h q).elim
  · have hb := ne b (there b x)
    exact a.xkeep b x fun m => m.elim h hb
  · obtain ⟨o, e⟩ := Option.isSome_iff_exists.mp (a.gone b (up b h))
    show (h'.get? b).isSome
    rw [k b o (ne b h) e]; rfl
theorem St.own1 (S : St sc env tg base X M ρ s) (o : Obj) (hof : o.isFreed = false) : St sc env tg base (fun b => X b ∨ b = s.heap.objs.size) (fun b => M b ∨ b = s.heap.objs.size) ρ { s with heap := s.heap.push o } := by
  have gr : Grown s.heap (s.heap.push o) := fun b o e => Heap.get?_push_of_some _ e
  have hn := get_size_none s.heap
  have mv : Move s.heap (s.heap.push o) X (fun b => X b ∨ b = s.heap.objs.size) := ⟨fun b o _ e => gr b o e, fun b hb hx => hx.elim id fun q => by rw [q, hn] at hb; cases hb⟩
  have S' := S.grow (s' := { s with heap := s.heap.push o }) (.push o) (Nat.le_refl _)
  exact { S' with
    vars := fun x ob d e => by
      obtain ⟨v, a, b, c, f⟩ := S.vars x ob d e
      refine ⟨v, a.kept gr, ?_, fun q => (c q).move mv, fun q => let ⟨a, l, e1, e2, e3, e4⟩ := f q; ⟨a, l, e1, fun h => .inl (e2 h), e3, e4⟩⟩
      cases ob with
      | false => exact ((c rfl).move mv).weak
      | true =>
        obtain ⟨a', l, rfl, f1, f2, rfl⟩ := f rfl
        obtain ⟨b', vs, e1, ⟨n, p⟩, r⟩ := b.list
        cases e1
        exact ⟨a', vs, rfl, ⟨n, gr _ _ p⟩, r.move mv⟩
    mx := fun a h => h.elim (fun h => .inl (S.mx a h)) .inr
    there := fun b h => h.elim (fun h => S'.there b h) fun q => by
      subst q
      show ((s.heap.push o).get? s.heap.objs.size).isSome
      rw [Heap.get?_push_size _ hof]; rfl
    mine := fun a h => h.elim (fun h => S.mine a h) fun q => by
      cases e : base.heap.get? a with
      | none => rfl
      | some o' => have := S.keep a o' e; rw [q, hn] at this; cases this
    locM := .inl S.locM
    cellX := fun x c e => .inl (S.cellX x c e)
    own := fun x h => (S.own x h).imp id fun ⟨a, c, e, m⟩ => ⟨a, c, e, .inl m⟩ }
theorem Step.own1 (hn : s.heap.get? s.heap.objs.size = none) (there : There X s.heap) (o : Obj) : Step X M s (fun b => X b ∨ b = s.heap.objs.size) (fun b => M b ∨ b = s.heap.objs.size) { s with heap := s.heap.push o } where
  kept := fun b o _ e => Heap.get?_push_of_some _ e
  xfree := fun b h x => x.elim id fun q => by rw [q, hn] at h; cases h
  mfree := fun b h x => x.elim id fun q => by rw [q, hn] at h; cases h
  xkeep := fun b x _ => .inl x
  gone := fun b h => by obtain ⟨o', e⟩ := Option.isSome_iff_exists.mp h; show ((s.heap.push o).get? b).isSome; rw [Heap.get?_push_of_some _ e]; rfl
  toks := Nat.le_refl _
theorem St.freeze (S : St sc env tg base X M ρ s) {y : Str} {l : List D} {b : Addr} (hl : ρ.lookup y = some (true, .list l)) (ht : tg y) (look : Look env s.heap y (.ref b)) :
    M b ∧ St sc env tg base (fun c => X c ∧ c ≠ b) (fun c => M c ∧ c ≠ b) (ρ.set y (false, .list l)) s ∧ Rep s.heap (fun c => X c ∧ c ≠ b) (.list l) (.ref b) ∧ Step X M s (fun c => X c ∧ c ≠ b) (fun c => M c ∧ c ≠ b) s := by
  obtain ⟨v, l1, w1, r1, f1⟩ := S.vars y true _ hl
  have := l1.det look
  subst this
  obtain ⟨a, l', e1, f1, _, e2⟩ := f1 rfl
  cases e1; cases e2
  have hM := f1 ht
  obtain ⟨b', vs, e1, p, r⟩ := w1.list
  cases e1
  have wk : ∀ c, (X c ∧ c ≠ b) → X c := fun c h => h.1
  have hr : Rep s.heap (fun c => X c ∧ c ≠ b) (.list l) (.ref b) := by
    unfold Rep
    exact ⟨b, vs, rfl, fun h => h.2 rfl, p, r.weaken wk⟩
  have nc : ∀ {c : Addr} {v : Option Value}, s.heap.IsCell c v → c ≠ b := fun i q => cell_not_list (q ▸ i) _ p
  have hloc : env.locals ≠ b := by
    obtain ⟨m, n⟩ := S.ns
    exact fun q => ns_not_list (q ▸ n) _ p
  refine ⟨hM, { S with
    known := fun z o d e => ?_
    vars := fun z o d e => ?_
    apart := fun z u dz du vz vu ez eu lz lu hne => ?_
    mx := fun c h => ⟨S.mx c h.1, h.2⟩
    there := fun c h => S.there c h.1
    mine := fun c h => S.mine c h.1
    locM := ⟨S.locM, hloc⟩
    cellX := fun x c e => by
      obtain ⟨v, i⟩ := S.cells x c e
      exact ⟨S.cellX x c e, nc i⟩
    own := fun x h => (S.own x h).imp id fun ⟨a, c, e, m⟩ => by
      obtain ⟨v, i⟩ := S.cells x c e
      exact ⟨a, c, e, m, nc i⟩ }, hr, ⟨fun _ _ _ e => e, fun _ _ h => h.1, fun _ _ h => h.1, fun c x m => ⟨x, fun q => m (q ▸ hM)⟩, fun _ h => h, Nat.le_refl _⟩⟩
  · rw [PEnv.lookup_set] at e
    by_cases hz : z = y
    · subst hz; exact S.known _ _ _ hl
    · rw [if_neg hz] at e; exact S.known z o d e
  · rw [PEnv.lookup_set] at e
    by_cases hz : z = y
    · subst hz
      rw [if_pos rfl] at e; cases e
      exact ⟨.ref b, look, hr.weak, fun _ => hr, fun h => nomatch h⟩
    · rw [if_neg hz] at e
      obtain ⟨v, a, w, c, f⟩ := S.vars z o d e
      cases o with
      | false => exact ⟨v, a, ((c rfl).weaken wk).weak, fun _ => (c rfl).weaken wk, fun h => nomatch h⟩
      | true =>
        obtain ⟨a', lz, rfl, g1, g2, rfl⟩ := f rfl
        obtain ⟨b', ws, e1, pw, rw'⟩ := w.list
        cases e1
        have hne : a' ≠ b := fun q => S.apart z y _ _ _ _ e hl a look hz (by rw [q])
        exact ⟨.ref a', a, ⟨a', ws, rfl, pw, rw'.weaken wk⟩, (fun h => nomatch h), fun _ => ⟨a', lz, rfl, fun h => ⟨g1 h, hne⟩, g2, rfl⟩⟩
  · rw [PEnv.lookup_set] at ez eu
    by_cases hz : z = y
    · rw [if_pos hz] at ez; cases ez
    · rw [if_neg hz] at ez
      by_cases hu : u = y
      · rw [if_pos hu] at eu; cases eu
      · rw [if_neg hu] at eu
        exact S.apart z u dz du vz vu ez eu lz lu hne
theorem St.mut (S : St sc env tg base X M ρ s) {x : Str} {l l' : List D} {a : Addr} {h' : Heap} {vs' : List Value} (hl : ρ.lookup x = some (true, .list l)) (ht : tg x) (look : Look env s.heap x (.ref a)) (hs : Heap.SameBut a s.heap h') (p' : h'.PlainList a vs'.toArray) (r' : Reps s.heap X l' vs') :
    St sc env tg base X M (ρ.set x (true, .list l')) { s with heap := h' } ∧ Step X M s X M { s with heap := h' } := by
  obtain ⟨v, l1, w1, r1, f1⟩ := S.vars x true _ hl
  have := l1.det look
  subst this
  obtain ⟨a', l'', e1, f1, f2, e2⟩ := f1 rfl
  cases e1; cases e2
  have hM := f1 ht
  have hX := S.mx a hM
  obtain ⟨b', vs, e1, p, r⟩ := w1.list
  cases e1
  have nc : ∀ {c : Addr} {v : Option Value}, s.heap.IsCell c v → c ≠ a := fun i q => cell_not_list (q ▸ i) _ p
  have hloc : env.locals ≠ a := by
    obtain ⟨m, n⟩ := S.ns
    exact fun q => ns_not_list (q ▸ n) _ p
  have lk : ∀ {z v}, Look env s.heap z v → Look env h' z v := by
    intro z v l
    rcases l with ⟨k1, m, n, e⟩ | ⟨k1, c, e, i⟩
    · exact .inl ⟨k1, m, n.sameBut hs hloc, e⟩
    · exact .inr ⟨k1, c, e, i.sameBut hs (nc i)⟩
  have hbase : base.heap.get? a = none := S.mine a hM
  have old : ∀ z o d, (ρ.set x (true, D.list l')).lookup z = some (o, d) → ∃ o' d', ρ.lookup z = some (o', d') ∧ o' = o := by
    intro z o d e
    rw [PEnv.lookup_set] at e
    by_cases hz : z = x
    · rw [if_pos hz] at e; cases e; exact ⟨_, _, hz ▸ hl, rfl⟩
    · rw [if_neg hz] at e; exact ⟨_, _, e, rfl⟩
  refine ⟨{ S with
    ns := let ⟨m, n⟩ := S.ns; ⟨m, n.sameBut hs hloc⟩
    known := fun z o d e => by
      obtain ⟨o', d', e', _⟩ := old z o d e
      exact S.known z o' d' e'
    vars := fun z o d e => ?_
    apart := fun y z dy dz vy vz ey ez ly lz hne => by
      obtain ⟨o1, d1, e1, h1⟩ := old y _ _ ey
      obtain ⟨o2, d2, e2, h2⟩ := old z _ _ ez
      subst h1 h2
      obtain ⟨v, av, _⟩ := S.vars y _ _ e1
      obtain ⟨u, bu, _⟩ := S.vars z _ _ e2
      have q1 := (lk av).det ly
      have q2 := (lk bu).det lz
      subst q1 q2
      exact S.apart y z _ _ _ _ e1 e2 av bu hne
    there := fun b hb => by
      show (h'.get? b).isSome
      by_cases q : b = a
      · subst q; exact Heap.PlainList.get p'
      · rw [hs.2 b q]; exact S.there b hb
    keep := fun b o e => (hs.2 b (fun q => by rw [q, hbase] at e; cases e)).trans (S.keep b o e)
    cells := fun x c e => by
      obtain ⟨v, i⟩ := S.cells x c e
      exact ⟨v, i.sameBut hs (nc i)⟩ }, ⟨fun b o hb e => (hs.2 b (fun q => hb (q ▸ hM))).trans e, fun _ _ x => x, fun _ _ x => x, fun _ x _ => x, fun b hb => ?_, Nat.le_refl _⟩⟩
  · rw [PEnv.lookup_set] at e
    by_cases hz : z = x
    · subst hz
      rw [if_pos rfl] at e; cases e
      exact ⟨.ref a, lk look, ⟨a, vs', rfl, p', r'.upd hX hs⟩, (fun h => nomatch h), fun _ => ⟨a, l', rfl, f1, f2, rfl⟩⟩
    · rw [if_neg hz] at e
      obtain ⟨v, av, w, c, f⟩ := S.vars z o d e
      cases o with
      | false => exact ⟨v, lk av, ((c rfl).upd hX hs).weak, fun _ => (c rfl).upd hX hs, fun h => nomatch h⟩
      | true =>
        obtain ⟨a'', lz, rfl, g1, g2, rfl⟩ := f rfl
        obtain ⟨b', ws, e1, ⟨n, pw⟩, rw'⟩ := w.list
        cases e1
        have hne : a'' ≠ a := fun q => S.apart z x _ _ _ _ e hl av look hz (by rw [q])
        exact ⟨.ref a'', lk av, ⟨a'', ws, rfl, ⟨n, (hs.2 a'' hne).trans pw⟩, rw'.upd hX hs⟩, (fun h => nomatch h), fun _ => ⟨a'', lz, rfl, g1, g2, rfl⟩⟩
  · show (h'.get? b).isSome
    by_cases q : b = a
    · subst q; exact Heap.PlainList.get p'
    · rw [hs.2 b q]; exact hb
end
end Mine
end
section
open PySem PySem.W PyProof.Rows
set_option Elab.async false
namespace Mine
section
variable {prog : Program} {w : World} {mg mb : Str → Option Value} {fns : List (Str × Addr × Obj)} {G : List (Str × (List D → Option D))} {A : Around} {sc : List (Str × NameKind)} {ev : Ev}
variable {env : Env} {tg : Str → Prop} {base : Shared} {X M : Addr → Prop} {ρ : PEnv} {s : Shared} {E : Value → Shared → Prop}
noncomputable def UseOk (prog : Program) (w : World) (mg mb : Str → Option Value) (fns : List (Str × Addr × Obj)) (A : Around) (sc : List (Str × NameKind)) (ev : Ev) : Prop :=
  ∀ {elt : Expr} {gens : List Comprehension} {scope : Scope} {pos : Pos} {ρ : PEnv} {o : Bool} {d : D}, ev (.ListComp elt gens scope pos) ρ = some (o, d) → ∀ {env : Env} {tg : Str → Prop} {base : Shared} {X M : Addr → Prop} {s : Shared} {Q : Value → Shared → Prop} {E : Value → Shared → Prop} {use : Option (Value → Sem Unit)},
    St sc env tg base X M ρ s → GOk mg mb fns s.heap →
    (∀ s' Dl C m, Grow s s' → s.toks ≤ s'.toks → Rep s'.heap X d (.ref Dl) → s.heap.get? C = none → s'.heap.Ns C m → compPost (model prog w) A E use Q (.ref Dl) C (.ok .next) s') →
    wpAny (model prog w) A (comprehension (.ListComp elt gens scope pos) scope env (firstIterPos gens pos) (newList []) (firstAsync gens) (firstIter gens env) use) Q E s
theorem pe_use {nn : Nat} (W : World0 prog w mg mb fns G nn) (R : Room A nn) : ∀ (n : Fu) (sc : List (Str × NameKind)), UseOk prog w mg mb fns A sc (pe G n sc)
  | .z, sc => by intro h; unfold pe at h; cases h
  | .s n, sc => by
    intro h env tg base X M s Q E use S g hK
    rename_i elt gens scope pos ρ o d
    have h' : peStep G (pe G n) n sc _ _ = _ := h
    have h2 : (match (replHead elt).bind fun r => (replClause gens).map fun c => (r, c) with
      | some rc => _
      | none => _) = some (o, d) := h'
    split at h2
    · cases h2
    · split at h2
      · cases h2
      · split at h2
        · rename_i hc
          obtain ⟨items, hit, h2⟩ := Option.bind_eq_some_iff.mp h2
          obtain ⟨out, hout, h2⟩ := Option.bind_eq_some_iff.mp h2
          obtain ⟨d', hd, h2⟩ := Option.map_eq_some_iff.mp h2
          cases h2
          exact listcomp_core (pe_ok W R n sc) (pe_ok W R n _) W R hc S g hit hout hd hK
        · cases h2
noncomputable def After (sc : List (Str × NameKind)) (env : Env) (tg : Str → Prop) (base : Shared) (X M : Addr → Prop) (s : Shared) (ρ' : PEnv) (fl : PFlow) (Q : Flow → Shared → Prop) : Prop :=
  ∀ X' M' s', St sc env tg base X' M' ρ' s' → Step X M s X' M' s' → match fl with
    | .next => Q .next s'
    | .ret d => ∀ v, (Rep s'.heap X' d v ∨ ∃ a l, v = .ref a ∧ M' a ∧ d = .list l ∧ Weak s'.heap X' d v) → Q (.ret v) s'
theorem After.after {X' M' : Addr → Prop} {s' : Shared} {ρ' : PEnv} {fl : PFlow} {Q : Flow → Shared → Prop} (h : After sc env tg base X M s ρ' fl Q) (st : Step X M s X' M' s') (t : There X s.heap) : After sc env tg base X' M' s' ρ' fl Q :=
  fun X₂ M₂ s₂ S₂ st₂ => h X₂ M₂ s₂ S₂ (st.trans st₂ t)
noncomputable def XOk (prog : Program) (w : World) (mg mb : Str → Option Value) (fns : List (Str × Addr × Obj)) (A : Around) (sc : List (Str × NameKind)) (run : List Stmt → PEnv → Option (PEnv × PFlow)) : Prop :=
  ∀ {sts : List Stmt} {ρ ρ' : PEnv} {fl : PFlow}, run sts ρ = some (ρ', fl) → ∀ {env : Env} {base : Shared} {X M : Addr → Prop} {s : Shared} {Q : Flow → Shared → Prop} {E : Value → Shared → Prop},
    St sc env (Own sc) base X M ρ s → GOk mg mb fns base.heap → After sc env (Own sc) base X M s ρ' fl Q → wpAny (model prog w) A (execs sts env) Q E s
theorem assign_ok {x : Str} {v : Value} {d : D} {Q : Unit → Shared → Prop} (S : St sc env (Own sc) base X M ρ s) (hx : own sc x = true) (r : Rep s.heap X d v)
    (hQ : ∀ s', St sc env (Own sc) base X M (ρ.set x (false, d)) s' → Step X M s X M s' → Q () s') : wpAny (model prog w) A (storeName env x v) Q E s :=
  S.assign (o := false) hx (Own.known hx) r.weak (fun _ => r) (fun h => nomatch h) fun s' S' st _ => hQ s' S' st
theorem swaps_false {e : Expr} {x : Str} {p : Pos} {l : Nat} (h : okValue e = true) (hn : isListComp e = false) : swapsWith e (some (.Name x p)) l env = pure false := by
  cases e <;> first | rfl | exact absurd h Bool.false_ne_true | exact absurd hn.symm Bool.false_ne_true
theorem swaps_list {elt : Expr} {gens : List Comprehension} {scope : Scope} {pos p : Pos} {x : Str} {l : Nat} : ∃ b, swapsWith (.ListComp elt gens scope pos) (some (.Name x p)) l env = pure b := ⟨_, rfl⟩
theorem assignE_ok (hev : EvOk prog w mg mb fns A sc ev) (hus : UseOk prog w mg mb fns A sc ev) {x : Str} {px pos : Pos} {e : Expr} {d : D} {Q : Flow → Shared → Prop} (S : St sc env (Own sc) base X M ρ s) (gb : GOk mg mb fns base.heap) (hx : own sc x = true) (hok : okValue e = true)
    (he : ev e ρ = some (true, d)) (hQ : After sc env (Own sc) base X M s (ρ.set x (false, d)) .next Q) : wpAny (model prog w) A (exec (.Assign [.Name x px] e pos) env) Q E s := by
  have g := gb.grow S.keep
  cases hl : isListComp e with
  | false =>
    exact wpAny_Assign_Name (hev he S g fun v s₁ g₁ t₁ _ r₁ => assign_ok (S.grow g₁ t₁) hx (r₁ rfl) fun s₂ S₂ st₂ => hQ X M s₂ S₂ ((Step.ofGrow g₁ t₁).trans st₂ S.there)) (swaps_false hok hl)
  | true =>
    cases e <;> first | cases hl | skip
    rename_i elt gens scope cpos
    obtain ⟨b, hb⟩ := swaps_list (elt := elt) (gens := gens) (scope := scope) (pos := cpos) (p := px) (x := x) (l := pos.line) (env := env)
    cases b with
    | false => exact wpAny_Assign_Name (hev he S g fun v s₁ g₁ t₁ _ r₁ => assign_ok (S.grow g₁ t₁) hx (r₁ rfl) fun s₂ S₂ st₂ => hQ X M s₂ S₂ ((Step.ofGrow g₁ t₁).trans st₂ S.there)) hb
    | true =>
      rw [exec_Assign_Name_used _ _ _ _ hb]
      refine wpAny_bind (wpAny_standAt (wpAny_bind ?_))
      show wpAny _ A (do let _ ← comprehension (.ListComp elt gens scope cpos) scope env (firstIterPos gens cpos) (newList []) (firstAsync gens) (firstIter gens env) (some (assign (.Name x px) env))) _ _ s
      refine wpAny_bind (wpAny_mono (hus he (use := some (assign (.Name x px) env)) (Q := fun _ s' => Q .next s') S g fun s₁ Dl C m g₁ t₁ r₁ hC hm => ?_) (fun _ s' hq => wpAny_pure (wpAny_pure hq)) fun _ _ e => e)
      show wpAny _ A (assign (.Name x px) env (.ref Dl)) _ _ _
      have hXC := xfree S hC
      have hMC := mfree S hC
      refine wpAny_assign_Name (assign_ok (S.grow g₁ t₁) hx r₁ fun s₂ S₂ st₂ => ?_)
      have hm₂ : s₂.heap.Ns C m := hm.at' fun o e => st₂.kept _ o hMC e
      refine ⟨m, hm₂, fun h₃ hs₃ => ?_⟩
      have k : But C s₂.heap h₃ := fun b o hb e => (hs₃.2 b hb).trans e
      have hb : base.heap.get? C = none := by
        cases q : base.heap.get? C with
        | none => rfl
        | some o => have := S.keep _ _ q; rw [hC] at this; cases this
      exact hQ X M _ (S₂.item (tk := s₂.toks) (odd_ns hm₂) hMC hXC hb k (Nat.le_refl _)) (Step.fin S.there g₁ t₁ hC (st₂.widen C) k (Nat.le_refl _))
end
end Mine
end
section
open PySem PySem.W PyProof.Rows
set_option Elab.async false
namespace Mine
section
variable {prog : Program} {w : World} {mg mb : Str → Option Value} {fns : List (Str × Addr × Obj)} {G : List (Str × (List D → Option D))} {A : Around} {sc : List (Str × NameKind)} {ev : Ev}
variable {env : Env} {tg : Str → Prop} {base : Shared} {X M : Addr → Prop} {ρ : PEnv} {s : Shared} {E : Value → Shared → Prop}
theorem append_core {x : Str} {l : List D} {d : D} {a : Addr} {y : Value} {Q : Value → Shared → Prop} (S : St sc env (Own sc) base X M ρ s) (hl : ρ.lookup x = some (true, .list l)) (hx : own sc x = true) (look : Look env s.heap x (.ref a)) (hlen : l.length ≤ 1000000)
    (r : Rep s.heap X d y) (hQ : ∀ s', St sc env (Own sc) base X M (ρ.set x (true, .list (l ++ [d]))) s' → Step X M s X M s' → Q .none s') : wpAny (model prog w) A (call (.builtin "list.append") [.ref a, y]) Q E s := by
  obtain ⟨v, l1, w1, _, _⟩ := S.vars x true _ hl
  have := l1.det look
  subst this
  obtain ⟨b', vs, e1, p, rs⟩ := w1.list
  cases e1
  refine wpAny_list_append_plain p (fun h' p' hs => ?_) (by rw [List.size_toArray, rs.length, PySem.sizeLine_eq]; omega)
  obtain ⟨S', st⟩ := S.mut (vs' := vs ++ [y]) hl hx look hs (by simpa using p') (rs.append (.cons r .nil))
  exact hQ _ S' st
theorem extend_core {x : Str} {l ds : List D} {a : Addr} {y : Value} {Q : Value → Shared → Prop} (S : St sc env (Own sc) base X M ρ s) (hl : ρ.lookup x = some (true, .list l)) (hx : own sc x = true) (look : Look env s.heap x (.ref a)) (hlen : (l ++ ds).length ≤ 1000000)
    (r : Rep s.heap X (.list ds) y) (hQ : ∀ s', St sc env (Own sc) base X M (ρ.set x (true, .list (l ++ ds))) s' → Step X M s X M s' → Q .none s') : wpAny (model prog w) A (call (.builtin "list.extend") [.ref a, y]) Q E s := by
  obtain ⟨v, l1, w1, _, f1⟩ := S.vars x true _ hl
  have := l1.det look
  subst this
  obtain ⟨b', vs, e1, ⟨n, p⟩, rs⟩ := w1.list
  cases e1
  unfold Rep at r
  obtain ⟨b, ws, rfl, hxb, ⟨n2, p2⟩, rs2⟩ := r
  rw [List.length_append] at hlen
  have h1 : vs.toArray.size = l.length := by rw [List.size_toArray]; exact rs.length
  have h2 : ws.toArray.size = ds.length := by rw [List.size_toArray]; exact rs2.length
  refine call_meets F.slot_list_extend (Heap.PlainList.isList ⟨n, p⟩).typeIs F.entry_list_extend (F.args_list_extend_2 _ _) (AutoSeq1.list_extend_list_list_0 a vs.toArray n b ws.toArray n2 ?_ ?_ ?_) ⟨p, p2, ?_⟩
  · simp only [Bool.and_eq_true, not_and]
    intro _
    unfold Builtin.List.listTooLong
    rw [h1, h2, PySem.sizeLine_eq]
    simp only [decide_eq_true_eq]
    omega
  · rw [h1, PySem.sizeLine_eq]; omega
  · rw [h1, h2, PySem.sizeLine_eq]; omega
  · show Q .none { s with heap := s.heap.update a (Obj.mapSeq fun x => x ++ ws.toArray), toks := s.toks }
    obtain ⟨S', st⟩ := S.mut (vs' := vs ++ ws) (h' := s.heap.update a (Obj.mapSeq fun x => x ++ ws.toArray)) hl hx look (Heap.SameBut.update ..) (by
      have := Heap.get?_update_self (f := Obj.mapSeq fun x => x ++ ws.toArray) p rfl
      exact ⟨if ws = [] then n else n + 1, by simpa [Obj.mapSeq] using this⟩) (rs.append rs2)
    exact hQ _ S' st
theorem retName_ok {x : Str} {px pos : Pos} {o : Bool} {d : D} {Q : Flow → Shared → Prop} (S : St sc env (Own sc) base X M ρ s) (hl : ρ.lookup x = some (o, d)) (hc : (!o || own sc x) = true) (hQ : After sc env (Own sc) base X M s ρ (.ret d) Q) :
    wpAny (model prog w) A (exec (.Return (some (.Name x px)) pos) env) Q E s := by
  refine wpAny_Return_some (name_ok S hl fun v look w r => hQ X M s S .refl v ?_)
  cases o with
  | false => exact .inl (r rfl)
  | true =>
    obtain ⟨v', l', w', _, f⟩ := S.vars x true d hl
    have := l'.det look
    subst this
    obtain ⟨a, l, rfl, f1, _, rfl⟩ := f rfl
    exact .inr ⟨a, l, rfl, f1 (by simpa [Own] using hc), rfl, w'⟩
theorem listDict {h : Heap} {a : Addr} {vs : Array Value} (p : h.PlainList a vs) : ∀ b, Value.ref a = .ref b → ∃ ob, h.get? b = some ob ∧ ob.dict = none := fun b e => by
  cases e; obtain ⟨n, p⟩ := p; exact ⟨_, p, rfl⟩
theorem mutCall_ok (hev : EvOk prog w mg mb fns A sc ev) {x m : Str} {id : String} {px apos pos epos : Pos} {a : Expr} {l l' : List D} {d : D} {Q : Flow → Shared → Prop} (slot : Slot "list" m id) (hty : typeOf (.builtin id) = pure (.type "method_descriptor"))
    (S : St sc env (Own sc) base X M ρ s) (gb : GOk mg mb fns base.heap) (hline : (apos.endLine == pos.line) = true) (hx : own sc x = true) (hl : ρ.lookup x = some (true, .list l)) (ha : pclean ev [a] ρ = some [d])
    (core : ∀ {s' : Shared} {ad : Addr} {y : Value} {Q : Value → Shared → Prop}, St sc env (Own sc) base X M ρ s' → Look env s'.heap x (.ref ad) → Rep s'.heap X d y → (∀ s₂, St sc env (Own sc) base X M (ρ.set x (true, .list l')) s₂ → Step X M s' X M s₂ → Q .none s₂) →
      wpAny (model prog w) A (call (.builtin id) [.ref ad, y]) Q E s')
    (hQ : After sc env (Own sc) base X M s (ρ.set x (true, .list l')) .next Q) : wpAny (model prog w) A (exec (.Expr (.Call (.Attribute (.Name x px) m apos) [a] [] pos) epos) env) Q E s := by
  obtain ⟨h1, _, h3⟩ := plain_of_pvals env (pos := pos) (pvals_of_pclean ha)
  have hint : interactive env = false := by unfold interactive; rw [S.kind]; rfl
  refine wpAny_Expr (meth_call (T := "list") (id := id) rfl hline h3 h1 (by simp) slot F.plainAttrs_list hty (name_ok S hl fun v look wk _ => ?_)) hint rfl
  obtain ⟨ad, vs, rfl, p, _⟩ := wk.list
  refine ⟨p.isList.typeIs, listDict p, pclean_ok hev ha S (gb.grow S.keep) fun ys s₁ g₁ t₁ r₁ => ?_⟩
  unfold Reps at r₁
  obtain ⟨y, ys', rfl, hy, r₁⟩ := r₁
  unfold Reps at r₁
  subst r₁
  exact core (S.grow g₁ t₁) (look.kept g₁.heap) hy fun s₂ S₂ st₂ => hQ X M s₂ S₂ ((Step.ofGrow g₁ t₁).trans st₂ S.there)
theorem appendName_ok {x y : Str} {px py apos pos epos : Pos} {o : Bool} {l : List D} {d : D} {ρ₂ : PEnv} {Q : Flow → Shared → Prop} (S : St sc env (Own sc) base X M ρ s) (hline : (apos.endLine == pos.line) = true) (hx : own sc x = true)
    (hl : ρ.lookup x = some (true, .list l)) (hlen : l.length ≤ 1000000) (hy : ρ.lookup y = some (o, d)) (ho : o = true → y ≠ x ∧ own sc y = true) (h2 : ρ₂ = if o then (ρ.set y (false, d)).set x (true, .list (l ++ [d])) else ρ.set x (true, .list (l ++ [d])))
    (hQ : After sc env (Own sc) base X M s ρ₂ .next Q) : wpAny (model prog w) A (exec (.Expr (.Call (.Attribute (.Name x px) "append" apos) [.Name y py] [] pos) epos) env) Q E s := by
  have hint : interactive env = false := by unfold interactive; rw [S.kind]; rfl
  refine wpAny_Expr (meth_call (T := "list") (id := "list.append") rfl hline rfl rfl (by simp) F.slot_list_append F.plainAttrs_list F.type_list_append (name_ok S hl fun v look wk _ => ?_)) hint rfl
  obtain ⟨ad, vs, rfl, p, _⟩ := wk.list
  refine ⟨p.isList.typeIs, listDict p, wpAny_items_cons (name_ok S hy fun vy looky wy ry => wpAny_items_nil ?_) rfl⟩
  cases o with
  | false =>
    subst h2
    exact append_core S hl hx look hlen (ry rfl) fun s₂ S₂ st₂ => hQ X M s₂ S₂ st₂
  | true =>
    subst h2
    obtain ⟨hne, hoy⟩ := ho rfl
    obtain ⟨vy', l1, _, _, f1⟩ := S.vars y true d hy
    have := l1.det looky
    subst this
    obtain ⟨b, lb, rfl, _, _, rfl⟩ := f1 rfl
    obtain ⟨_, S', r', st'⟩ := S.freeze hy hoy looky
    exact append_core S' (by rw [PEnv.lookup_set, if_neg (fun q => hne q.symm)]; exact hl) hx look hlen r' fun s₂ S₂ st₂ => hQ _ _ s₂ S₂ (st'.trans st₂ S.there)
theorem aug_ok (hev : EvOk prog w mg mb fns A sc ev) {x : Str} {px pos : Pos} {op : Operator} {e : Expr} {a r : D} {Q : Flow → Shared → Prop} (S : St sc env (Own sc) base X M ρ s) (gb : GOk mg mb fns base.heap) (hx : own sc x = true) (hl : ρ.lookup x = some (false, a))
    {o : Bool} {b : D} (he : ev e ρ = some (o, b)) (core : ∀ {s' : Shared} {va vb : Value} {Q : Value → Shared → Prop}, Rep s'.heap X a va → Weak s'.heap X b vb → Wants s' X r Q → wpAny (model prog w) A (inplaceOp op va vb) Q E s')
    (hQ : After sc env (Own sc) base X M s (ρ.set x (false, r)) .next Q) : wpAny (model prog w) A (exec (.AugAssign (.Name x px) op e pos) env) Q E s := by
  have ld : ∀ {Q : Value → Shared → Prop}, (∀ v, Rep s.heap X a v → Q v s) → wpAny (model prog w) A (loadName env x) Q E s := by
    intro Q h
    obtain ⟨v, look, _, r, _⟩ := S.vars x false a hl
    have hq := h v (r rfl)
    obtain ⟨k, hk⟩ := S.known x _ _ hl
    rcases look with ⟨k1, m, n, e⟩ | ⟨k1 | k1, c, e, i⟩
    · exact wpAny_loadName_local S.kind k1 n e hq
    · exact wpAny_loadName_cell S.kind k1 e i hq
    · exact wpAny_loadName_free S.kind k1 e i hq (S.plain x k hk).2
  refine wpAny_AugAssign_Name (ld fun va ra => hev he S (gb.grow S.keep) fun vb s₁ g₁ t₁ wb _ => ?_)
  refine Grow.toksOf (core (ra.grow g₁.heap) wb fun v s₂ g₂ r₂ t₂ => ?_)
  exact assign_ok ((S.grow g₁ t₁).grow g₂ t₂) hx r₂ fun s₃ S₃ st₃ => hQ X M s₃ S₃ (((Step.ofGrow g₁ t₁).trans (Step.ofGrow g₂ t₂) S.there).trans st₃ S.there)
end
end Mine
end
section
open PySem PySem.W PyProof.Rows
set_option Elab.async false
namespace Mine
section
variable {prog : Program} {w : World} {mg mb : Str → Option Value} {fns : List (Str × Addr × Obj)} {G : List (Str × (List D → Option D))} {A : Around} {sc : List (Str × NameKind)} {ev : Ev}
variable {env : Env} {tg : Str → Prop} {base : Shared} {X M : Addr → Prop} {ρ : PEnv} {s : Shared} {E : Value → Shared → Prop}
noncomputable def Left (sc : List (Str × NameKind)) (env : Env) (base : Shared) (X M : Addr → Prop) (s : Shared) (I : Addr) (ρ' : PEnv) (fl : PFlow) (R : Result → Shared → Prop) : Prop :=
  ∀ X' M' s₁ h' tk, St sc env (Own sc) base X' M' ρ' { s₁ with heap := h', toks := tk } → Step X (fun b => M b ∨ b = I) s X' (fun b => M' b ∨ b = I) s₁ → But I s₁.heap h' → s₁.toks ≤ tk → match fl with
    | .next => R (.ok .next) { s₁ with heap := h', toks := tk }
    | .ret d => ∀ v, (Rep h' X' d v ∨ ∃ a l, v = .ref a ∧ M' a ∧ d = .list l ∧ Weak h' X' d v) → R (.ok (.ret v)) { s₁ with heap := h', toks := tk }
theorem for_ok {run : List Stmt → PEnv → Option (PEnv × PFlow)} (hrun : XOk prog w mg mb fns A sc run) (gb : GOk mg mb fns base.heap) {x : Str} {px : Pos} {body : List Stmt} {items : List D} {ρ' : PEnv} {fl : PFlow} {I : Addr} {fp : List Addr} {P : Nat → Value → Prop}
    {Sx : Nat → Heap → Prop} {n : Nat} {R : Result → Shared → Prop} (hx : own sc x = true) (hp : ploop x (run body) items ρ = some (ρ', fl)) (S : St sc env (Own sc) base X M ρ s) (It₀ : It prog w A X M items I fp P Sx n s.heap) (hXI : ¬ X I) (hbI : base.heap.get? I = none)
    (hR : Left sc env base X M s I ρ' fl R) : codeAny (model prog w) A (.forLoop (.Name x px) (.ref I) body [] env) R s := by
  have here : ∀ {i h}, Sx i h → (h.get? I).isSome := fun st => by obtain ⟨o, e, _⟩ := It₀.odd _ _ st; rw [e]; rfl
  refine codeAny_forLoop (fun m s₁ => ∃ i X' M' ρ₁, m = n + 1 - i ∧ i ≤ n ∧ Sx i s₁.heap ∧ St sc env (Own sc) base X' M' ρ₁ s₁ ∧ Step X (fun b => M b ∨ b = I) s X' (fun b => M' b ∨ b = I) s₁ ∧ ploop x (run body) (items.drop i) ρ₁ = some (ρ', fl))
    ?_ (n + 1) ⟨0, X, M, ρ, rfl, Nat.zero_le _, It₀.st, S, .refl, hp⟩
  rintro m s₁ ⟨i, X', M', ρ₁, rfl, hi, hst, S₁, st₁, hl⟩
  have ho := It₀.odd i _ hst
  have hXI' : ¬ X' I := fun h => hXI (st₁.xfree I (here It₀.st) h)
  have hMI' : ¬ M' I := fun h => hXI' (S₁.mx I h)
  have hfX : ∀ b ∈ fp, ¬ X' b := fun b hb h => It₀.free b hb (st₁.xfree b (It₀.fp b hb) h)
  rcases Nat.lt_or_eq_of_le hi with hi | rfl
  · refine Grow.toksOf (It₀.walks.item i s₁ _ _ hi hst fun v h' tk hP hst' hkeep htk => ?_)
    have but : But I s₁.heap h' := fun b o hb e => hkeep b o (by simpa using hb) e
    have S₂ : St sc env (Own sc) base X' M' ρ₁ { s₁ with heap := h', toks := tk } := S₁.item ho hMI' hXI' hbI but htk
    have st₂ := st₁.trans (Step.item (X := X') (M := M') (s := s₁) (tk := tk) but (here hst') htk) S.there
    obtain ⟨d, hd, hrep⟩ := It₀.item i v hi hP
    have rep : Rep h' X' d v := (hrep.avoid (It₀.odd 0 _ It₀.st)).move ⟨fun b o hb e => but b o (fun q => hb (.inr q)) (st₁.kept b o (fun m => m.elim (fun m => hb (.inl (S.mx b m))) fun q => hb (.inr q)) e), fun b hb y => .inl (st₁.xfree b hb y)⟩
    have hdrop : items.drop i = d :: items.drop (i + 1) := by
      obtain ⟨hlt, e⟩ := List.getElem?_eq_some_iff.mp hd
      rw [List.drop_eq_getElem_cons hlt, e]
    rw [hdrop] at hl
    unfold ploop at hl
    refine wpAny_assign_Name (assign_ok S₂ hx rep fun s₃ S₃ st₃ => ?_)
    have st₃' := st₂.trans (st₃.widen I) S.there
    split at hl
    · rename_i ρ₂ hb
      refine hrun hb S₃ gb fun X₄ M₄ s₄ S₄ st₄ => ?_
      refine ⟨n + 1 - (i + 1), by omega, i + 1, X₄, M₄, ρ₂, rfl, hi, ?_, S₄, st₃'.trans (st₄.widen I) S.there, hl⟩
      exact It₀.walks.frame (i + 1) h' s₄.heap hst' fun b hb o e => st₄.kept b o (fun m => hfX b hb (S₁.mx b m)) (st₃.kept b o (fun m => hfX b hb (S₁.mx b m)) e)
    · rename_i hne
      cases fl with
      | next => exact (hne ρ' hl).elim
      | ret d' =>
        refine hrun hl S₃ gb fun X₄ M₄ s₄ S₄ st₄ v hv => ?_
        exact hR X₄ M₄ s₄ s₄.heap s₄.toks S₄ (st₃'.trans (st₄.widen I) S.there) (fun _ _ _ e => e) (Nat.le_refl _) v hv
  · refine Grow.toksOf (It₀.walks.done s₁ _ _ hst fun h' tk hkeep htk => ?_)
    have but : But I s₁.heap h' := fun b o hb e => hkeep b o (by simpa using hb) e
    have hnil : items.drop i = [] := by rw [It₀.hn]; exact List.drop_length
    rw [hnil] at hl
    unfold ploop at hl
    cases hl
    exact wpAny_execs_nil (hR X' M' s₁ h' tk (S₁.item ho hMI' hXI' hbI but htk) st₁ but htk)
end
end Mine
end
section
open PySem PySem.W PyProof.Rows
set_option Elab.async false
namespace Mine
section
variable {prog : Program} {w : World} {mg mb : Str → Option Value} {fns : List (Str × Addr × Obj)} {G : List (Str × (List D → Option D))} {A : Around} {sc : List (Str × NameKind)} {ev : Ev}
variable {env : Env} {tg : Str → Prop} {base : Shared} {X M : Addr → Prop} {ρ : PEnv} {s : Shared} {E : Value → Shared → Prop}
theorem assignL_ok (hev : EvOk prog w mg mb fns A sc ev) {x : Str} {px lp pos : Pos} {es : List Expr} {ds : List D} {k : Bool} {Q : Flow → Shared → Prop} (S : St sc env (Own sc) base X M ρ s) (gb : GOk mg mb fns base.heap) (hx : own sc x = true)
    (hd : pclean ev es ρ = some ds) (hl : ds.length ≤ 1000000) (hQ : After sc env (Own sc) base X M s (ρ.set x (k, .list ds)) .next Q) : wpAny (model prog w) A (exec (.Assign [.Name x px] (.List es lp) pos) env) Q E s := by
  refine wpAny_Assign_Name (list_ok hev S (gb.grow S.keep) hd hl fun vs s₁ g₁ t₁ r₁ => ?_)
  have S₁ := S.grow g₁ t₁
  cases k with
  | false =>
    have r : Rep (s₁.heap.push { cls := .type "list", data := .seq vs.toArray }) X (.list ds) (.ref s₁.heap.objs.size) := .newList (S.there.grow g₁.heap) r₁
    have g₂ : Grow s₁ { s₁ with heap := s₁.heap.push { cls := .type "list", data := .seq vs.toArray } } := .push _
    exact assign_ok (S₁.grow g₂ (Nat.le_refl _)) hx r fun s₃ S₃ st₃ => hQ X M s₃ S₃ (((Step.ofGrow g₁ t₁).trans (Step.ofGrow g₂ (Nat.le_refl _)) S.there).trans st₃ S.there)
  | true =>
    have hn := get_size_none s₁.heap
    have S₂ := S₁.own1 { cls := .type "list", data := .seq vs.toArray } rfl
    have st₂ := Step.own1 (X := X) (M := M) hn S₁.there { cls := .type "list", data := .seq vs.toArray }
    have p : (s₁.heap.push { cls := .type "list", data := .seq vs.toArray }).PlainList s₁.heap.objs.size vs.toArray := ⟨0, Heap.get?_push_size _ rfl⟩
    have wk : Weak (s₁.heap.push { cls := .type "list", data := .seq vs.toArray }) (fun b => X b ∨ b = s₁.heap.objs.size) (.list ds) (.ref s₁.heap.objs.size) :=
      ⟨_, vs, rfl, p, r₁.move ⟨fun b o _ e => Heap.get?_push_of_some _ e, fun b hb hx => hx.elim id fun q => by rw [q, hn] at hb; cases hb⟩⟩
    refine S₂.assign (o := true) hx (Own.known hx) wk (fun h => nomatch h) (fun _ => ⟨_, ds, rfl, .inr rfl, rfl, fun y dy vy hy _ look q => ?_⟩) fun s₃ S₃ st₃ _ => hQ _ _ s₃ S₃ (((Step.ofGrow g₁ t₁).trans st₂ S.there).trans st₃ S.there)
    subst q
    obtain ⟨v, l1, w1, _, f1⟩ := S₁.vars y true dy hy
    have := (l1.kept (fun b o e => Heap.get?_push_of_some _ e)).det look
    subst this
    obtain ⟨a, l, e1, _, _, rfl⟩ := f1 rfl
    obtain ⟨b, ws, e2, ⟨nb, pb⟩, _⟩ := w1.list
    cases e2
    rw [hn] at pb; cases pb
theorem pxStep_ok (hev : EvOk prog w mg mb fns A sc ev) (hus : UseOk prog w mg mb fns A sc ev) {nn : Nat} (W : World0 prog w mg mb fns G nn) (R : Room A nn) {n : Fu} {muts : List Str} {run : List Stmt → PEnv → Option (PEnv × PFlow)} (hrun : XOk prog w mg mb fns A sc run)
    {st : Stmt} {ρ' : PEnv} {fl : PFlow} (h : pxStep sc ev n muts run st ρ = some (ρ', fl)) {Q : Flow → Shared → Prop} (S : St sc env (Own sc) base X M ρ s) (gb : GOk mg mb fns base.heap) (hQ : After sc env (Own sc) base X M s ρ' fl Q) :
    wpAny (model prog w) A (exec st env) Q E s := by
  have hu : A.units + 41 < cLine := by have := R.units; omega
  unfold pxStep at h
  split at h
  · obtain ⟨t, ht, h1⟩ := Option.bind_eq_some_iff.mp h
    clear h
    obtain ⟨x, hxx, h⟩ := Option.bind_eq_some_iff.mp h1
    clear h1
    obtain ⟨px, e1⟩ := nameOfE_is hxx
    have e2 := oneOf_is ht
    subst e1
    subst e2
    split at h
    · rename_i es hes
      obtain ⟨pl, e3⟩ := listOfE_is hes
      subst e3
      split at h
      · rename_i hx
        obtain ⟨ds, hd, h⟩ := Option.bind_eq_some_iff.mp h
        split at h
        · rename_i hl
          cases h
          exact assignL_ok hev S gb hx hd hl hQ
        · cases h
      · cases h
    · split at h
      · rename_i hc
        simp only [Bool.and_eq_true] at hc
        split at h
        · rename_i d hd
          cases h
          exact assignE_ok hev hus S gb hc.1 hc.2 hd hQ
        · cases h
      · cases h
  · obtain ⟨x, hxx, h1⟩ := Option.bind_eq_some_iff.mp h
    clear h
    have h := h1
    clear h1
    obtain ⟨px, e1⟩ := nameOfE_is hxx
    subst e1
    split at h
    · rename_i hx
      split at h
      · rename_i a hl
        split at h
        · rename_i o b hb
          cases h
          refine aug_ok hev S gb hx hl hb (fun {s' va vb Q} ra wb hw => ?_) hQ
          obtain ⟨t, rfl⟩ := ra.weak.int
          obtain ⟨u, rfl⟩ := wb.int
          exact P.iadd_int (want_int hw)
        · cases h
      · rename_i a hl
        split at h
        · rename_i o b hb
          split at h
          · rename_i hbig
            cases h
            simp only [big, Bool.and_eq_true, decide_eq_true_eq] at hbig
            refine aug_ok hev S gb hx hl hb (fun {s' va vb Q} ra wb hw => ?_) hQ
            obtain ⟨t, rfl⟩ := ra.weak.int
            obtain ⟨u, rfl⟩ := wb.int
            exact P.imul_int (want_int hw) (mulOk_small hbig.1 hbig.2)
          · cases h
        · cases h
      · rename_i a hl
        split at h
        · rename_i o b hb
          split at h
          · rename_i hlen
            cases h
            refine aug_ok hev S gb hx hl hb (fun {s' va vb Q} ra wb hw => ?_) hQ
            obtain ⟨t, rfl⟩ := ra.weak.str
            obtain ⟨u, rfl⟩ := wb.str
            refine PyProof.Rows.iadd_str (fun t' tk => ?_) ?_
            · rw [toStr_append]; exact want_str hw t' tk
            · rw [toStr_length, toStr_length, PySem.sizeLine_eq]
              rw [List.length_append] at hlen
              omega
          · cases h
        · cases h
      · cases h
    · cases h
  · obtain ⟨c, hc, h⟩ := Option.bind_eq_some_iff.mp h
    refine wpAny_If (pt_ok hev hu n hc S (gb.grow S.keep) fun s₁ g₁ t₁ => ?_)
    have st₁ : Step X M s X M s₁ := .ofGrow g₁ t₁
    cases c with
    | true => simp only [if_true] at h ⊢; exact hrun h (S.grow g₁ t₁) gb (hQ.after st₁ S.there)
    | false => simp only [Bool.false_eq_true, if_false] at h ⊢; exact hrun h (S.grow g₁ t₁) gb (hQ.after st₁ S.there)
  · split at h
    case h_2 => cases h
    obtain ⟨x, hxx, h1⟩ := Option.bind_eq_some_iff.mp h
    clear h
    have h := h1
    clear h1
    obtain ⟨px, e1⟩ := nameOfE_is hxx
    subst e1
    split at h
    · rename_i hx
      obtain ⟨items, hit, h⟩ := Option.bind_eq_some_iff.mp h
      refine wpAny_For (pit_ok hev W R.handled S (gb.grow S.keep) hit fun I fp P Sx k s₂ g₂ t₂ it hI => ?_) (fun y => notSet_of_pit hit y)
      have hb : base.heap.get? I = none := by
        cases q : base.heap.get? I with
        | none => rfl
        | some o => have := S.keep _ _ q; rw [hI] at this; cases this
      refine for_ok hrun gb hx h (S.grow g₂ t₂) it (xfree S hI) hb fun X' M' s₃ h' tk S₃ st₃ k t₃ => ?_
      have st := Step.fin S.there g₂ t₂ hI st₃ k t₃
      have := hQ X' M' _ S₃ st
      cases fl with
      | next => exact this
      | ret d => exact this
    · cases h
  · obtain ⟨e, he, h1⟩ := Option.bind_eq_some_iff.mp h
    clear h
    have h := h1
    clear h1
    subst he
    split at h
    · rename_i x hxx
      obtain ⟨px, e1⟩ := nameOfE_is hxx
      subst e1
      obtain ⟨a, ha, h⟩ := Option.bind_eq_some_iff.mp h
      split at h
      · rename_i hc
        cases h
        exact retName_ok S ha hc hQ
      · cases h
    · obtain ⟨⟨o, d⟩, ha, h⟩ := Option.bind_eq_some_iff.mp h
      dsimp only at h
      split at h
      · rename_i ho
        cases h
        subst ho
        exact wpAny_Return_some (hev ha S (gb.grow S.keep) fun v s₁ g₁ t₁ _ r₁ => hQ X M s₁ (S.grow g₁ t₁) (.ofGrow g₁ t₁) v (.inl (r₁ rfl)))
      · cases h
  · obtain ⟨⟨co, cm, cap, cargs, cpos⟩, hac, h1⟩ := Option.bind_eq_some_iff.mp h
    clear h
    obtain ⟨x, hxx, h2⟩ := Option.bind_eq_some_iff.mp h1
    clear h1
    obtain ⟨a, haa, h⟩ := Option.bind_eq_some_iff.mp h2
    clear h2
    dsimp only at h hxx haa
    have e1 := attrCall_is hac
    clear hac
    obtain ⟨px, e2⟩ := nameOfE_is hxx
    have e3 := oneOf_is haa
    dsimp only at e1
    subst e1
    subst e2
    subst e3
    split at h
    · rename_i hc
      simp only [Bool.and_eq_true] at hc
      split at h
      · rename_i l hl
        split at h
        · rename_i hm
          obtain rfl := eq_of_beq hm
          split at h
          · rename_i y hyy
            obtain ⟨py, e4⟩ := nameOfE_is hyy
            subst e4
            split at h
            · rename_i d hy
              split at h
              · cases h
              · rename_i hxy
                simp only [Bool.or_eq_true, Bool.not_eq_true', not_or, beq_iff_eq] at hxy
                split at h
                · rename_i hlen
                  cases h
                  exact appendName_ok S hc.1 hc.2 hl hlen hy (fun _ => ⟨hxy.1, by simpa using hxy.2⟩) rfl hQ
                · cases h
            · rename_i d hy
              split at h
              · rename_i hlen
                cases h
                exact appendName_ok S hc.1 hc.2 hl hlen hy (fun q => nomatch q) rfl hQ
              · cases h
            · cases h
          · split at h
            · rename_i d hd
              split at h
              · rename_i hlen
                cases h
                exact mutCall_ok hev F.slot_list_append F.type_list_append S gb hc.1 hc.2 hl hd (fun S' look r hw => append_core S' hl hc.2 look hlen r hw) hQ
              · cases h
            · cases h
        · split at h
          · rename_i hm
            obtain rfl := eq_of_beq hm
            split at h
            · rename_i ds hd
              split at h
              · rename_i hlen
                cases h
                exact mutCall_ok hev F.slot_list_extend F.type_list_extend S gb hc.1 hc.2 hl hd (fun S' look r hw => extend_core S' hl hc.2 look hlen r hw) hQ
              · cases h
            · cases h
          · cases h
      · cases h
    · cases h
  · cases h
theorem px_ok {nn : Nat} (W : World0 prog w mg mb fns G nn) (R : Room A nn) {m : Fu} {muts : List Str} (fuel : Fu) (hev : EvOk prog w mg mb fns A sc ev) (hus : UseOk prog w mg mb fns A sc ev) : ∀ (n : Fu), XOk prog w mg mb fns A sc (px sc ev m muts n)
  | .z => by intro h; unfold px at h; cases h
  | .s n => by
    intro h
    unfold px at h
    rename_i sts ρ ρ' fl
    induction sts generalizing ρ with
    | nil =>
      intro env base X M s Q E S gb hQ
      unfold pseq at h
      cases h
      exact wpAny_execs_nil (hQ X M s S .refl)
    | cons st r ih =>
      intro env base X M s Q E S gb hQ
      unfold pseq at h
      split at h
      · rename_i ρ₂ hst
        refine wpAny_execs_cons (pxStep_ok hev hus W R (px_ok W R fuel hev hus n) hst S gb fun X' M' s' S' st' => ?_)
        exact ih h S' gb (hQ.after st' S.there)
      · rename_i hne
        cases fl with
        | next => exact (hne ρ' h).elim
        | ret d => exact wpAny_execs_cons (pxStep_ok hev hus W R (px_ok W R fuel hev hus n) h S gb hQ)
end
end Mine
end
section
open PySem PySem.W PyProof.Rows
set_option Elab.async false
namespace Mine
structure FunIs (fns : List (Str × Addr × Obj)) (a : Addr) (params : List Str) (sc : List (Str × NameKind)) (body : List Stmt) (fd : FuncData) : Prop where
  obj : ∃ x o, (x, a, o) ∈ fns ∧ o.data = .func fd
  code : ∃ y c oc vs t, fd.code = .ref c ∧ (y, c, oc) ∈ fns ∧ oc.data = .fields vs ∧ vs[1]? = some (.str fd.qualname t)
  names : fd.scope.names = sc
  kind : fd.scope.kind = .function
  co : fd.scope.isCoroutine = false
  gen : fd.scope.isGenerator = false
  body : fd.body = .stmts body
  globals : fd.globals = mainGlobals
  builtins : fd.builtins = builtinsNs
  closure : fd.closure = []
  bind : ∀ vs, vs.length = params.length → bindArgs fd ⟨vs, []⟩ = pure (params.zip vs)
noncomputable def nodups : List Str → Bool
  | [] => true
  | x :: r => !r.contains x && nodups r
noncomputable def defOk (params : List Str) (sc : List (Str × NameKind)) : Bool :=
  distinct sc && nodups params && params.all (own sc) && sc.all fun p => plainName p.1 && !(p.2 == .free)
theorem bindL_other {k : Str → Option NameKind} : ∀ {binds : List (Str × Value)} {m : Str → Option Value} {x : Str}, (∀ p ∈ binds, p.1 ≠ x) → bindL k binds m x = m x
  | [], m, x, _ => rfl
  | (n, v) :: r, m, x, h => by
    unfold bindL
    rw [bindL_other fun p hp => h p (List.mem_cons_of_mem _ hp)]
    have : x ≠ n := fun q => h (n, v) List.mem_cons_self q.symm
    split
    · simp [this]
    · rfl
theorem bindC_other {k : Str → Option NameKind} : ∀ {binds : List (Str × Value)} {m : Str → Option Value} {x : Str}, (∀ p ∈ binds, p.1 ≠ x) → bindC k binds m x = m x
  | [], m, x, _ => rfl
  | (n, v) :: r, m, x, h => by
    unfold bindC
    rw [bindC_other fun p hp => h p (List.mem_cons_of_mem _ hp)]
    have : x ≠ n := fun q => h (n, v) List.mem_cons_self q.symm
    split
    · rfl
    · simp [this]
theorem zip_names : ∀ {ps : List Str} {vs : List Value} {p : Str × Value}, p ∈ ps.zip vs → p.1 ∈ ps
  | _, _, p, h => (List.of_mem_zip h).1
theorem bind_get {k : Str → Option NameKind} {X : Addr → Prop} {h : Heap} : ∀ {ps : List Str} {ds : List D} {vs : List Value} {m cm : Str → Option Value} {x : Str} {o : Bool} {d : D}, nodups ps = true → Reps h X ds vs → ((ps.zip ds).map fun p => (p.1, false, p.2)).lookup x = some (o, d) →
    x ∈ ps ∧ o = false ∧ ∃ v, Rep h X d v ∧ (k x = some .local → bindL k (ps.zip vs) m x = some v) ∧ (k x ≠ some .local → bindC k (ps.zip vs) cm x = some v)
  | [], _, _, _, _, x, o, d, _, _, e => by simp at e
  | p :: ps, [], _, _, _, x, o, d, _, _, e => by simp at e
  | p :: ps, c :: ds, vs, m, cm, x, o, d, hn, r, e => by
    unfold Reps at r
    obtain ⟨v, vs', rfl, r1, r2⟩ := r
    unfold nodups at hn
    simp only [Bool.and_eq_true, Bool.not_eq_true', ] at hn
    rw [List.zip_cons_cons, List.map_cons, List.lookup_cons] at e
    rw [List.zip_cons_cons]
    cases hx : x == p with
    | true =>
      rw [hx] at e; cases e
      obtain rfl : x = p := eq_of_beq hx
      have hnot : ∀ q ∈ ps.zip vs', q.1 ≠ x := fun q hq he => by
        have := zip_names hq
        rw [he] at this
        have h1 := hn.1
        rw [List.contains_eq_mem] at h1
        simp [this] at h1
      refine ⟨List.mem_cons_self, rfl, v, r1, fun hk => ?_, fun hk => ?_⟩
      · unfold bindL
        rw [bindL_other hnot, if_pos hk, if_pos rfl]
      · unfold bindC
        rw [bindC_other hnot, if_neg hk, if_pos rfl]
    | false =>
      rw [hx] at e
      obtain ⟨hm, ho, v', r', a, b⟩ := bind_get (k := k) (m := if k p = some .local then fun y => if y = p then some v else m y else m) (cm := if k p = some .local then cm else fun y => if y = p then some v else cm y) hn.2 r2 e
      refine ⟨List.mem_cons_of_mem _ hm, ho, v', r', fun hk => ?_, fun hk => ?_⟩
      · unfold bindL; exact a hk
      · unfold bindC; exact b hk
section
variable {prog : Program} {w : World} {mg mb : Str → Option Value} {fns : List (Str × Addr × Obj)} {G : List (Str × (List D → Option D))}
theorem enter_ok {nn : Nat} {a : Addr} {params : List Str} {sc : List (Str × NameKind)} {body : List Stmt} {fd : FuncData} (F : FunIs fns a params sc body fd) (hok : defOk params sc = true) {fn : List D → Option D}
    (hb : ∀ {ds : List D} {d : D}, fn ds = some d → ds.length = params.length ∧ ∃ ρe, ∀ {A : Around} {env : Env} {base : Shared} {X M : Addr → Prop} {s : Shared} {Q : Flow → Shared → Prop} {E : Value → Shared → Prop}, Room A nn →
      St sc env (Own sc) base X M ((params.zip ds).map fun p => (p.1, false, p.2)) s → GOk mg mb fns base.heap → GOk mg mb fns s.heap → After sc env (Own sc) base X M s ρe (.ret d) Q → wpAny (model prog w) A (execs body env) Q E s) :
    FunOk prog w mg mb fns (nn + 1) (.ref a) fn := by
  intro A E s X ds vs d Q R g t htk hr hd hQ
  obtain ⟨hlen, ρe, hrun⟩ := hb hd
  · · simp only [defOk, Bool.and_eq_true, List.all_eq_true, Bool.not_eq_true'] at hok
      obtain ⟨⟨⟨hdist, hnd⟩, hown⟩, hpl⟩ := hok
      obtain ⟨fx, o, hmem, hdata⟩ := F.obj
      obtain ⟨cy, c, oc, cvs, ct, hcode, hcmem, hcdata, hcq⟩ := F.code
      have hcd : s.heap.CodeRec fd.code fd.qualname := ⟨c, oc, cvs, ct, hcode, g.fn _ hcmem, hcdata, hcq⟩
      have hvl : vs.length = params.length := by rw [hr.length]; exact hlen
      have hkinds : ∀ x, own sc x = true → sc.lookup x = some .local ∨ sc.lookup x = some .cell := by
        intro x hx
        unfold own at hx
        split at hx
        · exact .inl (by assumption)
        · exact .inr (by assumption)
        · cases hx
      have hnf : ∀ x, sc.lookup x ≠ some .free := fun x e => by
        have := (hpl _ (mem_of_lookup e)).2
        simp at this
      have hcells : ∀ x, sc.lookup x = some .cell → ((cellsFrom (s.heap.objs.size + 1) fd.scope.names []).lookup x).isSome = true := by
        intro x e
        obtain ⟨c, hc⟩ := cellsFrom_has (n := s.heap.objs.size + 1) (mem_of_lookup (F.names ▸ e))
        rw [hc]; rfl
      have hR := R.depth
      have hU := R.units
      refine wpAny_call (codeAny_call_function (by omega) (g.fn _ hmem) hdata F.co F.gen F.body hcd ?_)
      rw [F.bind vs hvl, F.closure]
      refine wpAny_pure (Grow.toksOf (wpAny_newFunctionEnv_cells F.kind ?_ fun env he s₁ x₁ t₁ => ?_))
      · intro p hp
        rw [F.names]
        rcases hkinds p.1 (hown p.1 (zip_names hp)) with h | h
        · exact .inl h
        · exact .inr ⟨h, F.names ▸ hcells p.1 h⟩
      have keep := x₁.toInCall.keep
      refine ⟨g.nolimit.keeps keep, codeAny_func ?_⟩
      have hloc : env.locals = s.heap.objs.size := by rw [he]; rfl
      have hcl : env.cells = cellsFrom (s.heap.objs.size + 1) sc [] := by rw [he, ← F.names]; rfl
      have hko : ∀ x, env.kindOf x = sc.lookup x := fun x => by rw [he, ← F.names]; rfl
      have hnone : ∀ b, s.heap.objs.size ≤ b → s.heap.get? b = none := fun b hb => by
        cases e : s.heap.get? b with
        | none => rfl
        | some o => exact absurd (Heap.lt_size e) (Nat.not_lt.mpr hb)
      let Mx : Addr → Prop := fun b => b = env.locals ∨ ∃ x, env.cells.lookup x = some b
      have hMn : ∀ b, Mx b → s.heap.get? b = none := by
        rintro b (rfl | ⟨x, e⟩)
        · exact hnone _ (Nat.le_of_eq hloc.symm)
        · have := x₁.above x b (mem_of_lookup e)
          rw [hloc] at this
          exact hnone b (Nat.le_of_lt this)
      obtain ⟨⟨h', tk, hs₁⟩, hns, _, _⟩ := x₁.toInCall
      have mv : Move s.heap s₁.heap X (fun b => X b ∨ Mx b) := ⟨fun b o _ e => keep b o e, fun b hb hx => hx.elim id fun m => by rw [hMn b m] at hb; cases hb⟩
      have S₁ : St sc env (Own sc) s (fun b => X b ∨ Mx b) Mx ((params.zip ds).map fun p => (p.1, false, p.2)) s₁ := by
        refine ⟨by rw [he]; exact F.kind, by rw [he]; exact F.globals, by rw [he]; exact F.builtins, fun x k e => .inl ((hko x).trans e), fun x k e => ?_, fun x o d e => ?_, fun x k e hk => ?_, ⟨_, hns⟩, fun x o d e => ?_, fun x y dx dy vx vy ex _ _ _ _ => ?_, fun b h => .inr h, fun b hb => ?_, hMn, keep, .inl rfl, fun x c e => ⟨_, x₁.cell x c e⟩,
          fun x y c ex ey => name_of_addr x₁.apart (mem_of_lookup ex) (mem_of_lookup ey), fun x c e => .inr (.inr ⟨x, e⟩), fun x hx => ?_, by rw [hs₁], by rw [hs₁], by rw [hs₁], Nat.lt_of_lt_of_le htk t₁⟩
        · have := (hpl (x, k) (mem_of_lookup e)).1
          unfold plainName at this
          simpa using this
        · obtain ⟨hm, _⟩ := bind_get (k := env.kindOf) (m := fun _ => none) (cm := fun _ => none) hnd hr e
          rcases hkinds x (hown x hm) with h | h
          · exact ⟨_, h⟩
          · exact ⟨_, h⟩
        · rcases hk with rfl | rfl
          · obtain ⟨c, hc⟩ := cellsFrom_has (n := s.heap.objs.size + 1) (mem_of_lookup e)
            exact ⟨c, by rw [hcl]; exact hc⟩
          · exact (hnf x e).elim
        · obtain ⟨hm, rfl, v, rv, hl, hc⟩ := bind_get (k := env.kindOf) (m := fun _ => none) (cm := fun _ => none) hnd hr e
          have rv' := rv.move mv
          refine ⟨v, ?_, rv'.weak, fun _ => rv', fun q => nomatch q⟩
          rcases hkinds x (hown x hm) with h | h
          · exact .inl ⟨(hko x).trans h, _, hns, hl ((hko x).trans h)⟩
          · obtain ⟨c, hcc⟩ := cellsFrom_has (n := s.heap.objs.size + 1) (mem_of_lookup h)
            have hcc' : env.cells.lookup x = some c := by rw [hcl]; exact hcc
            have := x₁.cell x c hcc'
            rw [hc (by rw [hko x, h]; exact fun q => nomatch q)] at this
            exact .inr ⟨.inl ((hko x).trans h), c, hcc', this⟩
        · obtain ⟨_, ho, _⟩ := bind_get (k := env.kindOf) (m := fun _ => none) (cm := fun _ => none) hnd hr ex
          cases ho
        · rcases hb with hb | rfl | ⟨x, e⟩
          · obtain ⟨o, e⟩ := Option.isSome_iff_exists.mp (t b hb)
            rw [keep b o e]; rfl
          · obtain ⟨o, _, _, e, _⟩ := hns
            rw [e]; rfl
          · obtain ⟨o, e, _⟩ := x₁.cell x b e
            rw [e]; rfl
        · rcases hkinds x hx with h | h
          · exact .inl ((hko x).trans h)
          · obtain ⟨c, hcc⟩ := cellsFrom_has (n := s.heap.objs.size + 1) (mem_of_lookup h)
            have hcc' : env.cells.lookup x = some c := by rw [hcl]; exact hcc
            exact .inr ⟨(hko x).trans h, c, hcc', .inr ⟨x, hcc'⟩⟩
      have R' : Room (A.deeper env) nn := ⟨R.handled, by show A.depth + 1 + nn < _; omega, by show A.units + 3 + 3 * nn + 41 < _; omega⟩
      refine hrun R' S₁ g (g.grow keep) fun X' M' s₂ S₂ st v hv => ?_
      have hsub : ∀ b, X b → X' b := fun b hb => st.xkeep b (.inl hb) fun m => by
        have := t b hb
        rw [hMn b m] at this; cases this
      refine hQ v s₂ ⟨S₂.keep, S₂.gens, S₂.drawn, S₂.os⟩ ?_
      rcases hv with hv | ⟨ad, l, rfl, hm, rfl, wk⟩
      · exact hv.weaken hsub
      · obtain ⟨b, ws, e, p, r⟩ := wk.list
        cases e
        unfold Rep
        refine ⟨ad, ws, rfl, fun hx => ?_, p, r.weaken hsub⟩
        have := t ad hx
        rw [S₂.mine ad hm] at this; cases this
theorem def_ok {nn : Nat} (W : World0 prog w mg mb fns G nn) {a : Addr} {params : List Str} {sc : List (Str × NameKind)} {body : List Stmt} {fd : FuncData} {muts : List Str} (F : FunIs fns a params sc body fd) (hok : defOk params sc = true) :
    FunOk prog w mg mb fns (nn + 1) (.ref a) (pdef G params sc muts body) := by
  refine enter_ok F hok fun {ds d} hd => ?_
  unfold pdef at hd
  split at hd
  · rename_i hlen
    split at hd
    · rename_i ρe d' hrun
      cases hd
      exact ⟨hlen, ρe, fun R' S₁ g _ h => px_ok W R' fu (pe_ok W R' fu sc) (pe_use W R' fu sc) fu hrun S₁ g h⟩
    · cases hd
  · cases hd
end
end Mine
end
section
open PySem PySem.W PyProof.Rows
set_option Elab.async false
set_option maxRecDepth 10000
namespace Mine
open PySem.Sre (M)
noncomputable abbrev RS := PySem.Sre.Seen
noncomputable abbrev SF := PySem.Sre.Frame
noncomputable def reCode : Array Nat := #[14, 9, 4, 1, 2, 16, 10, 16, 13, 0, 7, 7, 16, 13, 16, 10, 15, 18, 5, 16, 10, 15, 13, 11, 16, 13, 5, 5, 0, 16, 10, 1, 15, 2, 0, 1]
theorem set_end (c : Nat) (seen : RS) : ∃ seen', Sre.inSet reCode c 36 5 true seen = .ok (c == 10 || c == 13, seen') := by
  by_cases h : c = 10
  · subst h; exact ⟨_, rfl⟩
  · by_cases h' : c = 13
    · subst h'; exact ⟨_, rfl⟩
    · have e1 : (c == 10) = false := by simpa using h
      have e2 : (c == 13) = false := by simpa using h'
      rw [e1, e2]
      refine ⟨((seen.add 16).add 16).add 0, ?_⟩
      show (if (c == 10) = true then _ else (if (c == 13) = true then _ else _) : Except String (Bool × RS)) = _
      rw [e1, e2]
      rfl
noncomputable def K (T : Array Nat) (s pc pos : Nat) (frames : List SF) (weight : Nat) (answer : Option Bool) (outer : Bool) (handed : Nat) (seen : RS) (out : Option Sre.Outcome) : M :=
  { code := reCode, text := T, lim := T.size, start := s, lastStart := T.size, pc, pos, handed, outermost := outer, marks := #[], frames, weight, answer, seen, outcome := out }
noncomputable def F0 (s : Nat) : SF := { wait := .nextStart, pc := 10, pos := s, outermost := true }
noncomputable def F1 (pc s : Nat) : SF := { wait := .nextBranch, pc := pc, pos := s, outermost := true }
noncomputable def F2 (s : Nat) : SF := { wait := .lookNot, pc := 26, pos := s, outermost := true }
theorem s_branch {T : Array Nat} {s h : Nat} {seen : RS} : (K T s 10 s [F0 s] 1 none true h seen none).step = K T s 12 s [F1 11 s, F0 s] 2 none true s (seen.add 7) none := by rfl
theorem l12_ok {T : Array Nat} {s p h w : Nat} {fr : List SF} {seen : RS} {o : Bool} (hp : p < T.size) (hv : T.getD p 0 = 13) : (K T s 12 p fr w none o h seen none).step = K T s 14 (p + 1) fr w none o h (seen.add 16) none := by
  show (if p ≥ T.size then _ else _ : M) = _
  rw [if_neg (by omega)]
  dsimp only [K]
  rw [hv]
  rfl
theorem l12_no {T : Array Nat} {s p h w : Nat} {fr : List SF} {seen : RS} {o : Bool} (hv : p < T.size → T.getD p 0 ≠ 13) : (K T s 12 p fr w none o h seen none).step = K T s 12 p fr w (some false) o h (seen.add 16) none := by
  show (if p ≥ T.size then _ else _ : M) = _
  by_cases hp : p ≥ T.size
  · rw [if_pos hp]; rfl
  · rw [if_neg hp]
    have e : ∀ sn, Sre.accepts reCode 12 (T.getD p 0) sn = .ok (false, sn) := fun sn => by
      show (Except.ok (T.getD p 0 == 13, _) : Except String (Bool × RS)) = _
      rw [show (T.getD p 0 == 13) = false from beq_eq_false_iff_ne.mpr (hv (by omega))]
    dsimp only [K]
    rw [e]
    rfl
theorem l14_ok {T : Array Nat} {s p h w : Nat} {fr : List SF} {seen : RS} {o : Bool} (hp : p < T.size) (hv : T.getD p 0 = 10) : (K T s 14 p fr w none o h seen none).step = K T s 16 (p + 1) fr w none o h (seen.add 16) none := by
  show (if p ≥ T.size then _ else _ : M) = _
  rw [if_neg (by omega)]
  dsimp only [K]
  rw [hv]
  rfl
theorem l14_no {T : Array Nat} {s p h w : Nat} {fr : List SF} {seen : RS} {o : Bool} (hv : p < T.size → T.getD p 0 ≠ 10) : (K T s 14 p fr w none o h seen none).step = K T s 14 p fr w (some false) o h (seen.add 16) none := by
  show (if p ≥ T.size then _ else _ : M) = _
  by_cases hp : p ≥ T.size
  · rw [if_pos hp]; rfl
  · rw [if_neg hp]
    have e : ∀ sn, Sre.accepts reCode 14 (T.getD p 0) sn = .ok (false, sn) := fun sn => by
      show (Except.ok (T.getD p 0 == 10, _) : Except String (Bool × RS)) = _
      rw [show (T.getD p 0 == 10) = false from beq_eq_false_iff_ne.mpr (hv (by omega))]
    dsimp only [K]
    rw [e]
    rfl
theorem l19_ok {T : Array Nat} {s p h w : Nat} {fr : List SF} {seen : RS} {o : Bool} (hp : p < T.size) (hv : T.getD p 0 = 10) : (K T s 19 p fr w none o h seen none).step = K T s 21 (p + 1) fr w none o h (seen.add 16) none := by
  show (if p ≥ T.size then _ else _ : M) = _
  rw [if_neg (by omega)]
  dsimp only [K]
  rw [hv]
  rfl
theorem l19_no {T : Array Nat} {s p h w : Nat} {fr : List SF} {seen : RS} {o : Bool} (hv : p < T.size → T.getD p 0 ≠ 10) : (K T s 19 p fr w none o h seen none).step = K T s 19 p fr w (some false) o h (seen.add 16) none := by
  show (if p ≥ T.size then _ else _ : M) = _
  by_cases hp : p ≥ T.size
  · rw [if_pos hp]; rfl
  · rw [if_neg hp]
    have e : ∀ sn, Sre.accepts reCode 19 (T.getD p 0) sn = .ok (false, sn) := fun sn => by
      show (Except.ok (T.getD p 0 == 10, _) : Except String (Bool × RS)) = _
      rw [show (T.getD p 0 == 10) = false from beq_eq_false_iff_ne.mpr (hv (by omega))]
    dsimp only [K]
    rw [e]
    rfl
theorem l24_ok {T : Array Nat} {s p h w : Nat} {fr : List SF} {seen : RS} {o : Bool} (hp : p < T.size) (hv : T.getD p 0 = 13) : (K T s 24 p fr w none o h seen none).step = K T s 26 (p + 1) fr w none o h (seen.add 16) none := by
  show (if p ≥ T.size then _ else _ : M) = _
  rw [if_neg (by omega)]
  dsimp only [K]
  rw [hv]
  rfl
theorem l29_no {T : Array Nat} {s p h w : Nat} {fr : List SF} {seen : RS} {o : Bool} (hv : p < T.size → T.getD p 0 ≠ 10) : (K T s 29 p fr w none o h seen none).step = K T s 29 p fr w (some false) o h (seen.add 16) none := by
  show (if p ≥ T.size then _ else _ : M) = _
  by_cases hp : p ≥ T.size
  · rw [if_pos hp]; rfl
  · rw [if_neg hp]
    have e : ∀ sn, Sre.accepts reCode 29 (T.getD p 0) sn = .ok (false, sn) := fun sn => by
      show (Except.ok (T.getD p 0 == 10, _) : Except String (Bool × RS)) = _
      rw [show (T.getD p 0 == 10) = false from beq_eq_false_iff_ne.mpr (hv (by omega))]
    dsimp only [K]
    rw [e]
    rfl
theorem s_jump16 {T : Array Nat} {s p h w : Nat} {fr : List SF} {seen : RS} {o : Bool} : (K T s 16 p fr w none o h seen none).step = K T s 35 p fr w none o h (seen.add 15) none := by rfl
theorem s_jump21 {T : Array Nat} {s p h w : Nat} {fr : List SF} {seen : RS} {o : Bool} : (K T s 21 p fr w none o h seen none).step = K T s 35 p fr w none o h (seen.add 15) none := by rfl
theorem s_jump32 {T : Array Nat} {s p h w : Nat} {fr : List SF} {seen : RS} {o : Bool} : (K T s 32 p fr w none o h seen none).step = K T s 35 p fr w none o h (seen.add 15) none := by rfl
theorem s_done {T : Array Nat} {s p h w : Nat} {fr : List SF} {seen : RS} : (K T s 35 p fr w none true h seen none).step = K T s 35 p fr w (some true) true p (seen.add 1) none := by rfl
theorem s_no1 {T : Array Nat} {s p h pc : Nat} {seen : RS} {o : Bool} : (K T s pc p [F1 11 s, F0 s] 2 (some false) o h seen none).step = K T s 19 s [F1 18 s, F0 s] 2 none true s seen none := by rfl
theorem s_no2 {T : Array Nat} {s p h pc : Nat} {seen : RS} {o : Bool} : (K T s pc p [F1 18 s, F0 s] 2 (some false) o h seen none).step = K T s 24 s [F1 23 s, F0 s] 2 none true s seen none := by rfl
theorem s_yes1 {T : Array Nat} {s p h pc b : Nat} {seen : RS} {o : Bool} : (K T s pc p [F1 b s, F0 s] 2 (some true) o h seen none).step = K T s b s [F0 s] 1 (some true) true h seen none := by rfl
theorem s_yes0 {T : Array Nat} {s p h pc : Nat} {seen : RS} {o : Bool} : (K T s pc p [F0 s] 1 (some true) o h seen none).step = K T s 10 s [] 0 (some true) true h seen none := by rfl
theorem s_end {T : Array Nat} {s p h pc : Nat} {seen : RS} {o : Bool} : (K T s pc p [] 0 (some true) o h seen none).step = K T s pc p [] 0 (some true) o h seen (some .matched) := by rfl
theorem s_not {T : Array Nat} {s h : Nat} {seen : RS} : (K T s 26 (s + 1) [F1 23 s, F0 s] 2 none true h seen none).step = K T s 29 (s + 1) [F2 (s + 1), F1 23 s, F0 s] 3 none false (s + 1) (seen.add 5) none := by rfl
theorem s_notno {T : Array Nat} {s h p pc : Nat} {seen : RS} {o : Bool} : (K T s pc p [F2 (s + 1), F1 23 s, F0 s] 3 (some false) o h seen none).step = K T s 32 (s + 1) [F1 23 s, F0 s] 2 none true h seen none := by rfl
end Mine
end
section
open PySem PySem.W PyProof.Rows
set_option Elab.async false
set_option maxRecDepth 10000
namespace Mine
open PySem.Sre (M)
theorem runFor_some {m : M} (h : m.outcome.isSome = true) : ∀ n, m.runFor n = m
  | 0 => rfl
  | n + 1 => by unfold M.runFor; rw [if_pos h]
theorem runFor_succ {m : M} (h : m.outcome = none) (n : Nat) : m.runFor (n + 1) = m.step.runFor n := by
  conv => lhs; unfold M.runFor
  rw [h]; rfl
theorem runFor_add (m : M) : ∀ a b, m.runFor (a + b) = (m.runFor a).runFor b
  | 0, b => by rw [Nat.zero_add]; rfl
  | a + 1, b => by
    cases h : m.outcome with
    | none => rw [Nat.add_right_comm, runFor_succ h, runFor_succ h, runFor_add m.step a b]
    | some o =>
      have h' : m.outcome.isSome = true := by rw [h]; rfl
      rw [runFor_some h', runFor_some h', runFor_some h']
noncomputable def Steps (m m' : M) (n : Nat) : Prop := ∀ k, m.runFor (n + k) = m'.runFor k
theorem Steps.one {m m' : M} (h : m.outcome = none) (e : m.step = m') : Steps m m' 1 := fun k => by rw [Nat.add_comm, runFor_succ h, e]
theorem Steps.trans {a b c : M} {n k : Nat} (x : Steps a b n) (y : Steps b c k) : Steps a c (n + k) := fun j => by rw [Nat.add_assoc, x, y]
theorem Steps.cons {a b c : M} {n : Nat} (e : a.step = b) (y : Steps b c n) (h : a.outcome = none := by rfl) : Steps a c (1 + n) := (Steps.one h e).trans y
theorem Steps.refl {a : M} : Steps a a 0 := fun k => by rw [Nat.zero_add]
noncomputable def reEnd (T : Array Nat) (s : Nat) : Nat := if s + 1 < T.size ∧ T.getD s 0 = 13 ∧ T.getD (s + 1) 0 = 10 then s + 2 else s + 1
theorem match_ok {T : Array Nat} {s h : Nat} {seen : RS} (hs : s < T.size) (hc : T.getD s 0 = 10 ∨ T.getD s 0 = 13) :
    ∃ n pc p o seen', n ≤ 30 ∧ Steps (K T s 10 s [F0 s] 1 none true h seen none) (K T s pc p [] 0 (some true) o (reEnd T s) seen' (some .matched)) n := by
  by_cases h10 : T.getD s 0 = 10
  · have hne : T.getD s 0 ≠ 13 := by omega
    have he : reEnd T s = s + 1 := by unfold reEnd; rw [if_neg (fun q => hne q.2.1)]
    rw [he]
    exact ⟨_, _, _, _, _, by decide, .cons s_branch (.cons (l12_no fun _ => hne) (.cons s_no1 (.cons (l19_ok hs h10) (.cons s_jump21 (.cons s_done (.cons s_yes1 (.cons s_yes0 (.cons s_end .refl))))))))⟩
  · have h13 : T.getD s 0 = 13 := by omega
    by_cases h2 : s + 1 < T.size ∧ T.getD (s + 1) 0 = 10
    · have he : reEnd T s = s + 2 := by unfold reEnd; rw [if_pos ⟨h2.1, h13, h2.2⟩]
      rw [he]
      exact ⟨_, _, _, _, _, by decide, .cons s_branch (.cons (l12_ok hs h13) (.cons (l14_ok h2.1 h2.2) (.cons s_jump16 (.cons s_done (.cons s_yes1 (.cons s_yes0 (.cons s_end .refl)))))))⟩
    · have hn : s + 1 < T.size → T.getD (s + 1) 0 ≠ 10 := fun a b => h2 ⟨a, b⟩
      have he : reEnd T s = s + 1 := by unfold reEnd; rw [if_neg (fun q => h2 ⟨q.1, q.2.2⟩)]
      rw [he]
      exact ⟨_, _, _, _, _, by decide, .cons s_branch (.cons (l12_ok hs h13) (.cons (l14_no hn) (.cons s_no1 (.cons (l19_no fun _ => h10) (.cons s_no2 (.cons (l24_ok hs h13) (.cons s_not (.cons (l29_no hn) (.cons s_notno
        (.cons s_jump32 (.cons s_done (.cons s_yes1 (.cons s_yes0 (.cons s_end .refl))))))))))))))⟩
noncomputable def nextEol (T : Array Nat) : Nat → Nat → Option Nat
  | 0, _ => none
  | f + 1, s => if s ≥ T.size then none else if (T.getD s 0 == 10 || T.getD s 0 == 13) = true then some s else nextEol T f (s + 1)
theorem admitted_ok {T : Array Nat} {m : M} (h1 : m.code = reCode) (h2 : m.text = T) (h3 : m.lim = T.size) : ∀ (f s : Nat) (seen : RS), ∃ seen', m.admitted f s seen = .ok (nextEol T f s, seen')
  | 0, s, seen => ⟨seen, rfl⟩
  | f + 1, s, seen => by
    unfold M.admitted nextEol
    rw [h3]
    by_cases hs : s ≥ T.size
    · rw [if_pos hs, if_pos hs]; exact ⟨seen, rfl⟩
    · rw [if_neg hs, if_neg hs, h1, h2]
      obtain ⟨seen', e⟩ := set_end (T.getD s 0) seen
      rw [show reCode.size = 36 from rfl, e]
      cases hb : (T.getD s 0 == 10 || T.getD s 0 == 13) with
      | true => exact ⟨seen', by rw [if_pos rfl]⟩
      | false =>
        rw [if_neg Bool.false_ne_true]
        exact admitted_ok h1 h2 h3 f (s + 1) seen'
theorem attemptFrom_ok {T : Array Nat} {m : M} (h1 : m.code = reCode) (h2 : m.text = T) (h3 : m.lim = T.size) (start : Nat) : match nextEol T (T.size + 1 - start) start with
    | some s => ∃ seen, m.attemptFrom start true = M.attemptAt { m with mustAdvance := false, seen := seen } s true
    | none => ∃ seen, m.attemptFrom start true = M.say { m with seen := seen } false := by
  obtain ⟨seen', e⟩ := admitted_ok h1 h2 h3 (T.size + 1 - start) start m.seen
  have hf : m.hasFirstSet = true := by unfold M.hasFirstSet; rw [h1]; rfl
  unfold M.attemptFrom
  rw [hf, h3]
  cases hn : nextEol T (T.size + 1 - start) start with
  | none =>
    rw [hn] at e
    refine ⟨seen', ?_⟩
    rw [if_neg (by decide), e]
  | some s =>
    rw [hn] at e
    refine ⟨seen', ?_⟩
    rw [if_neg (by decide), e]
theorem search_ok {T : Array Nat} {start : Nat} : match nextEol T (T.size + 1 - start) start with
    | some s => ∃ seen, Sre.forSearch reCode T 0 start T.size false = K T s 10 s [F0 s] 1 none true s seen none
    | none => ∃ m, Sre.forSearch reCode T 0 start T.size false = m ∧ m.outcome = none ∧ m.answer = some false ∧ m.frames = [] := by
  unfold Sre.forSearch
  by_cases h : start > T.size ∨ T.size - start < 1
  · have hn : nextEol T (T.size + 1 - start) start = none := by
      have hge : start ≥ T.size := by omega
      cases e : T.size + 1 - start with
      | zero => rfl
      | succ f => unfold nextEol; rw [if_pos hge]
    rw [hn]
    dsimp only
    rw [show Sre.header reCode = (1, 10) from rfl]
    dsimp only
    rw [if_pos (by simpa using h)]
    exact ⟨_, rfl, rfl, rfl, rfl⟩
  · rw [show Sre.header reCode = (1, 10) from rfl]
    dsimp only
    rw [if_neg (by simpa using h)]
    have key := fun (X : M) h1 h2 h3 => attemptFrom_ok (m := X) (T := T) h1 h2 h3 start
    cases hn : nextEol T (T.size + 1 - start) start with
    | none =>
      rw [hn] at key
      dsimp only at key ⊢
      refine Exists.elim (key _ ?h1 ?h2 ?h3) fun seen e => ⟨_, e, rfl, rfl, rfl⟩
      all_goals rfl
    | some s =>
      rw [hn] at key
      dsimp only at key ⊢
      refine Exists.elim (key _ ?h1 ?h2 ?h3) fun seen e => ⟨seen, e.trans ?h4⟩
      all_goals rfl
end Mine
end
section
open PySem PySem.W PyProof.Rows
set_option Elab.async false
namespace Mine
theorem halt_through (den : Code → Sem Fin) (prog : Program) (w : World) (s s' : Shared) (t : Thread) (f : Flow) (h : step den prog w s t = .halt (.done f) s') : through t = true := by
  obtain ⟨heap, gens, drawn, toks, os⟩ := s
  obtain ⟨cur, code, pos, stack⟩ := t
  cases cur
  case pure fin =>
    cases fin with
    | again c => cases h
    | done f' =>
      cases stack with
      | nil => rfl
      | cons fr rest => cases fr <;> cases h
  case raise e =>
    cases stack with
    | nil =>
      simp only [step, finish] at h
      split at h <;> cases h
    | cons fr rest => cases fr <;> cases h
  all_goals try (cases h; done)
  all_goals simp only [step] at h
  all_goals repeat' split at h
  all_goals cases h
theorem runN_last (den : Code → Sem Fin) (prog : Program) (w : World) : ∀ (n : Nat) (s : Shared) (t : Thread) (o : Outcome) (s' : Shared), runN den prog w n s t = .halted o s' → ∃ k s₁ t₁, runN den prog w k s t = .running s₁ t₁ ∧ step den prog w s₁ t₁ = .halt o s'
  | 0, s, t, o, s', h => by cases h
  | n + 1, s, t, o, s', h => by
    simp only [runN] at h
    cases hs : step den prog w s t with
    | go s₂ t₂ =>
      simp only [hs] at h
      obtain ⟨k, s₁, t₁, h1, h2⟩ := runN_last den prog w n s₂ t₂ o s' h
      exact ⟨k + 1, s₁, t₁, by simp only [runN, hs]; exact h1, h2⟩
    | halt o₂ s₂ =>
      simp only [hs] at h
      cases h
      exact ⟨0, s, t, rfl, hs⟩
theorem top_ran {prog : Program} {w : World} {t : Sem Fin} {s : Shared} {R : Shared → Prop} (hreg : s.asleep)
    (h : wpAny (model prog w) callerA t (fun fin s' => ∃ f, fin = .done f ∧ (R s' ∧ leftWithCleanup s'.gens = false)) (fun _ _ => False) s) :
    ∃ n s₁ t₁ s₂, schedN (denote table) prog w n (.single s ⟨t, .builtin "claim.caller" {}, default, []⟩) = .running (.single s₁ t₁) ∧ through t₁ = true ∧ s₁.forget = s₂.forget ∧ R s₂ ∧ s₁.heap.life = s.heap.life := by
  obtain ⟨n, r, s₂, hn, hR⟩ := (wp_iff_halts (M := model prog w) t (fun r s' => R s' ∧ ∃ f, r = .ok f) default s).mp
    (wp_of_wpAny_done (R := fun r s' => (R s' ∧ ∃ f, r = .ok f) ∧ leftWithCleanup s'.gens = false) caller_in (wpAny_mono h (fun fin s' ⟨f, e, h1, h2⟩ => ⟨f, e, ⟨h1, f, rfl⟩, h2⟩) fun _ _ x => x.elim) default)
  obtain ⟨hR, f, rfl⟩ := hR
  obtain ⟨s', hn', hf, hc⟩ := runNI_real (model prog w).den (model prog w).prog (model prog w).w hn (outcomeOf_ends _)
  have hne : ∀ k s₂, runN (denote table) prog w k s ⟨t, .builtin "claim.caller" {}, default, []⟩ ≠ .halted (.unsupported "lifetime:generator-with-cleanup-left-suspended") s₂ := by
    intro k s₃ hk
    have a := runN_mono (denote table) prog w n k s _ _ s' hn'
    have b := runN_mono (denote table) prog w k n s _ _ s₃ hk
    rw [Nat.add_comm, b] at a
    injection a with a1 _
    cases a1
  obtain ⟨k, s₁, t₁, hk, hst⟩ := runN_last (denote table) prog w n s _ _ s' hn'
  have e := step_halt_same (denote table) prog w s₁ s' t₁ _ hst
  subst e
  refine ⟨k, s', t₁, s₂, ?_, halt_through _ _ _ _ _ _ f hst, hf, hR, runN_life (denote table) prog w hn'⟩
  rw [schedN_eq_runN (denote table) prog w s _ hreg ⟨hc, hne⟩ k, hk]
  rfl
end Mine
end
section
open PySem PySem.W PyProof.Rows
set_option Elab.async false
namespace Mine
theorem toksOf {s : Shared} {M : Model} {A : Around} {α : Type} {t : Sem α} {Q : α → Shared → Prop} {E : Value → Shared → Prop}
    (h : wpAny M A t (fun a s' => s.toks ≤ s'.toks → Q a s') E s) : wpAny M A t Q E s :=
  wpAny_with_toks (Nat.le_refl _) (wpAny_mono h (fun _ _ x => x) fun _ _ x _ => x)
structure TopSt (s₀ : Shared) (mg₀ : Str → Option Value) (c Pl : Addr) (done : List DefRec) (l : List (Pos × Addr)) (ns : List Str) (vs : List (Str × Value)) (objs : List (Addr × Obj)) (mg : Str → Option Value) (s : Shared) : Prop where
  main : s.heap.Main mg c Pl (triples l).toArray
  new : s₀.heap.objs.size ≤ Pl
  keep : ∀ b o, b ≠ mainGlobals → s₀.heap.get? b = some o → s.heap.get? b = some o
  gens : s.gens = s₀.gens
  drawn : s.drawn = s₀.drawn
  os : s.os = s₀.os
  toks : s₀.toks ≤ s.toks
  fn : ∀ e ∈ done, s.heap.HasFn mg Pl e
  names : ∀ x, x ∉ ns → mg x = mg₀ x
  vals : ∀ p ∈ vs, mg p.1 = some p.2
  obj : ∀ p ∈ objs, s.heap.get? p.1 = some p.2 ∧ Pl < p.1
section
variable {prog : Program} {w : World} {A : Around} {E : Value → Shared → Prop} {s₀ s s₁ : Shared} {mg₀ mg : Str → Option Value} {c Pl F : Addr} {done : List DefRec} {l : List (Pos × Addr)} {ns : List Str} {vs : List (Str × Value)} {objs : List (Addr × Obj)}
theorem TopSt.drop (T : TopSt s₀ mg₀ c Pl done l ns vs objs mg s) {vs' : List (Str × Value)} (h : ∀ p ∈ vs', p ∈ vs) : TopSt s₀ mg₀ c Pl done l ns vs' objs mg s :=
  { T with vals := fun p hp => T.vals p (h p hp) }
theorem TopSt.grow (T : TopSt s₀ mg₀ c Pl done l ns vs objs mg s) (g : Grow s s₁) (t : s.toks ≤ s₁.toks) : TopSt s₀ mg₀ c Pl done l ns vs objs mg s₁ where
  main := ⟨T.main.g.keeps g.heap, T.main.code.keeps g.heap, T.main.low, by
    obtain ⟨bm, o, h1, h2, h3, h4, h5, h6⟩ := T.main.bmod
    exact ⟨bm, o, h1, h2, h3, h4, g.heap _ _ h5, h6⟩⟩
  new := T.new
  keep := fun b o hb e => g.heap b o (T.keep b o hb e)
  gens := g.gens.trans T.gens
  drawn := g.drawn.trans T.drawn
  os := g.os.trans T.os
  toks := Nat.le_trans T.toks t
  fn := fun e he => by
    obtain ⟨a, o, pm, code, doc, h1, h2, h3, h4, h5⟩ := T.fn e he
    exact ⟨a, o, pm, code, doc, h1, g.heap _ _ h2, h3, h4.keeps g.heap, h5⟩
  names := T.names
  vals := T.vals
  obj := fun p hp => ⟨g.heap _ _ (T.obj p hp).1, (T.obj p hp).2⟩
theorem TopSt.more (T : TopSt s₀ mg₀ c Pl done l ns vs objs mg s) {new : List (Addr × Obj)} (h : ∀ p ∈ new, s.heap.get? p.1 = some p.2 ∧ Pl < p.1) : TopSt s₀ mg₀ c Pl done l ns vs (new ++ objs) mg s :=
  { T with obj := fun p hp => (List.mem_append.mp hp).elim (h p) (T.obj p) }
theorem TopSt.store (T : TopSt s₀ mg₀ c Pl done l ns vs objs mg s) {x : Str} {v : Value} (hloc : prog.main.scope.names.lookup x = some .local) (hmod : prog.main.scope.kind = .module)
    (hx : x ≠ "__builtins__") (hd : ∀ e ∈ done, e.name ≠ x) (hv : ∀ p ∈ vs, p.1 ≠ x) {Q : Unit → Shared → Prop}
    (hQ : ∀ s', TopSt s₀ mg₀ c Pl done l (x :: ns) ((x, v) :: vs) objs (fun y => if y = x then some v else mg y) s' → Q () s') :
    wpAny (model prog w) A (storeName (mainEnv prog c F) x v) Q E s := by
  refine wpAny_storeName_local (env := mainEnv prog c F) hloc T.main.g (fun h' hg' hs' => hQ _ ?_) (by show (prog.main.scope.kind == .class || (prog.main.scope.kind == .module && mainGlobals != mainGlobals)) = false; rw [hmod]; rfl)
  have k : ∀ b o, b ≠ mainGlobals → s.heap.get? b = some o → h'.get? b = some o := fun b o hb e => (hs'.2 b hb).trans e
  have lt : ∀ b, Pl < b → b ≠ mainGlobals := fun b hb => Nat.ne_of_gt (Nat.lt_trans T.main.low.2 hb)
  refine ⟨⟨hg', T.main.code.sameBut hs' (Nat.ne_of_gt T.main.low.1) (Nat.ne_of_gt T.main.low.2), T.main.low, ?_⟩, T.new, fun b o hb e => k b o hb (T.keep b o hb e), T.gens, T.drawn, T.os, Nat.le_succ_of_le T.toks, fun e he => ?_, fun y hy => ?_, fun p hp => ?_, fun p hp => ?_⟩
  · obtain ⟨bm, o, h1, h2, h3, h4, h5, h6⟩ := T.main.bmod
    exact ⟨bm, o, (if_neg (Ne.symm hx)).trans h1, h2, h3, h4, k _ _ h3 h5, h6⟩
  · obtain ⟨a, o, pm, code, doc, h1, h2, h3, h4, h5, h6⟩ := T.fn e he
    exact ⟨a, o, pm, code, doc, (if_neg (hd e he)).trans h1, k _ _ (lt _ h5) h2, h3, h4.at fun o => k _ o (lt _ h6), h5, h6⟩
  · exact (if_neg (fun q : y = x => hy (by rw [q]; exact List.mem_cons_self))).trans (T.names y fun q => hy (List.mem_cons_of_mem _ q))
  · rcases List.mem_cons.mp hp with rfl | hp
    · exact if_pos rfl
    · exact (if_neg (hv p hp)).trans (T.vals p hp)
  · obtain ⟨h1, h2⟩ := T.obj p hp
    exact ⟨k _ _ (lt _ h2) h1, h2⟩
theorem TopSt.assign (_T : TopSt s₀ mg₀ c Pl done l ns vs objs mg s) {x : Str} {pos pos' : Pos} {value : Expr} (hs : swapsWith value (some (.Name x pos')) pos.line (mainEnv prog c F) = pure false)
    (hloc : prog.main.scope.names.lookup x = some .local) (hmod : prog.main.scope.kind = .module)
    (hx : x ≠ "__builtins__") (hd : ∀ e ∈ done, e.name ≠ x) (hv : ∀ p ∈ vs, p.1 ≠ x) {rest : List Stmt} {Q : Flow → Shared → Prop}
    (h : wpAny (model prog w) A (eval value (mainEnv prog c F)) (fun v s₁ => ∃ new, TopSt s₀ mg₀ c Pl done l ns vs (new ++ objs) mg s₁ ∧
      ∀ s', TopSt s₀ mg₀ c Pl done l (x :: ns) ((x, v) :: vs) (new ++ objs) (fun y => if y = x then some v else mg y) s' → wpAny (model prog w) A (execs rest (mainEnv prog c F)) Q E s') E s) :
    wpAny (model prog w) A (execs (.Assign [.Name x pos'] value pos :: rest) (mainEnv prog c F)) Q E s := by
  refine wpAny_execs_cons (wpAny_Assign_Name (wpAny_mono h (fun v s₁ ⟨new, T₁, h₁⟩ => ?_) fun _ _ x => x) hs)
  exact T₁.store hloc hmod hx hd hv fun s' T' => h₁ s' T'
theorem TopSt.assignStr (T : TopSt s₀ mg₀ c Pl done l ns vs objs mg s) {x y : Str} {pos pos' pos'' : Pos} {k : Nat}
    (hloc : prog.main.scope.names.lookup x = some .local) (hmod : prog.main.scope.kind = .module)
    (hx : x ≠ "__builtins__") (hd : ∀ e ∈ done, e.name ≠ x) (hv : ∀ p ∈ vs, p.1 ≠ x) {rest : List Stmt} {Q : Flow → Shared → Prop}
    (h : ∀ t s', TopSt s₀ mg₀ c Pl done l (x :: ns) ((x, .str y t) :: vs) objs (fun z => if z = x then some (.str y t) else mg z) s' → wpAny (model prog w) A (execs rest (mainEnv prog c F)) Q E s') :
    wpAny (model prog w) A (execs (.Assign [.Name x pos'] (.Constant (.str y) k pos'') pos :: rest) (mainEnv prog c F)) Q E s := by
  refine T.assign (by rfl) hloc hmod hx hd hv (wpAny_Constant_str ⟨[], T.grow .tok (Nat.le_succ _), fun s' T' => h _ s' T'⟩)
theorem TopSt.def (T : TopSt s₀ mg₀ c Pl done l ns vs objs mg s) {d : DefRec} (hd : d.Plain prog) (hmod : prog.main.scope.kind = .module) (hl : ∀ q ∈ l, ¬ (q.1.line = d.pos.line ∧ q.1.col = d.pos.col))
    (hn : ∀ e ∈ done, e.name ≠ d.name) (hv : ∀ p ∈ vs, p.1 ≠ d.name) {rest : List Stmt} {Q : Flow → Shared → Prop}
    (h : ∀ s' mg' c', TopSt s₀ mg₀ c Pl (d :: done) (l ++ [(d.pos, c')]) (d.name :: ns) vs objs mg' s' → wpAny (model prog w) A (execs rest (mainEnv prog c F)) Q E s') :
    wpAny (model prog w) A (execs (d.stmt :: rest) (mainEnv prog c F)) Q E s := by
  have hPl : Pl < s.heap.objs.size := T.main.code.lt.2
  refine wpAny_execs_cons (toksOf (wpAny_def hd hmod T.main (by rw [List.toList_toArray]; exact codeAmong_triples _ _ hl) fun a c' doc h₁ tk₁ ha hm₁ hf hc keep ht => ?_))
  have lt : ∀ b, Pl < b → b ≠ mainGlobals := fun b hb => Nat.ne_of_gt (Nat.lt_trans T.main.low.2 hb)
  have hm₁' : h₁.Main (fun x => if x = d.name then some (.ref a) else mg x) c Pl (triples (l ++ [(d.pos, c')])).toArray := by
    rw [triples_append]; simpa using hm₁
  refine h _ _ c' ⟨hm₁', T.new, fun b o hb e => ?_, T.gens, T.drawn, T.os, Nat.le_trans T.toks ht, fun e he => ?_, fun y hy => ?_, fun p hp => ?_, fun p hp => ?_⟩
  · exact keep b o (fun q => by
      have := Heap.lt_size e
      rw [q] at this
      exact absurd this (Nat.not_lt.mpr T.new)) hb (T.keep b o hb e)
  · rcases List.mem_cons.mp he with rfl | he
    · exact ⟨a, _, _, c', doc, if_pos rfl, hf, rfl, hc.2, Nat.lt_of_lt_of_le hPl ha, Nat.lt_of_lt_of_le hPl hc.1⟩
    · obtain ⟨a₀, o₀, pm₀, cd₀, doc₀, hb₀, ho₀, hd₀, hc₀, la₀, lc₀⟩ := T.fn e he
      exact ⟨a₀, o₀, pm₀, cd₀, doc₀, (if_neg (hn e he)).trans hb₀, keep _ _ (Nat.ne_of_gt la₀) (lt _ la₀) ho₀, hd₀, hc₀.at fun o => keep _ o (Nat.ne_of_gt lc₀) (lt _ lc₀), la₀, lc₀⟩
  · exact (if_neg (fun q : y = d.name => hy (by rw [q]; exact List.mem_cons_self))).trans (T.names y fun q => hy (List.mem_cons_of_mem _ q))
  · exact (if_neg (hv p hp)).trans (T.vals p hp)
  · obtain ⟨h1, h2⟩ := T.obj p hp
    exact ⟨keep _ _ (Nat.ne_of_gt h2) (lt _ h2) h1, h2⟩
theorem TopSt.defs (hmod : prog.main.scope.kind = .module) {rest : List Stmt} {Q : Flow → Shared → Prop} : ∀ (ds : List DefRec) {done : List DefRec} {l : List (Pos × Addr)} {ns : List Str} {mg : Str → Option Value} {s : Shared},
    TopSt s₀ mg₀ c Pl done l ns vs objs mg s → (∀ d ∈ ds, d.Plain prog) → (∀ d ∈ ds, ∀ p ∈ vs, p.1 ≠ d.name) → (ds.map (·.name)).Nodup → (∀ d ∈ ds, ∀ e ∈ done, e.name ≠ d.name) →
    (ds.map fun d => (d.pos.line, d.pos.col)).Nodup → (∀ d ∈ ds, ∀ q ∈ l, ¬ (q.1.line = d.pos.line ∧ q.1.col = d.pos.col)) →
    (∀ s' mg' l', TopSt s₀ mg₀ c Pl (ds.reverse ++ done) l' ((ds.map (·.name)).reverse ++ ns) vs objs mg' s' → (∀ q ∈ l', q ∈ l ∨ ∃ d ∈ ds, q.1 = d.pos) → wpAny (model prog w) A (execs rest (mainEnv prog c F)) Q E s') →
    wpAny (model prog w) A (execs (ds.map (·.stmt) ++ rest) (mainEnv prog c F)) Q E s
  | [], done, l, ns, mg, s, T, _, _, _, _, _, _, h => h _ _ l T fun q hq => .inl hq
  | d :: ds, done, l, ns, mg, s, T, hp, hv, hn, hnd, hq, hql, h => by
    have hn' := List.nodup_cons.mp hn
    have hq' := List.nodup_cons.mp hq
    refine T.def (hp d List.mem_cons_self) hmod (hql d List.mem_cons_self) (hnd d List.mem_cons_self) (hv d List.mem_cons_self) fun s' mg' c' T' => ?_
    refine TopSt.defs hmod ds T' (fun e he => hp e (List.mem_cons_of_mem _ he)) (fun e he => hv e (List.mem_cons_of_mem _ he)) hn'.2 ?_ hq'.2 ?_ fun s'' mg'' l' T'' hl' => ?_
    · intro e he e' he'
      rcases List.mem_cons.mp he' with rfl | h1
      · exact fun x => hn'.1 (List.mem_map.mpr ⟨e, he, x.symm⟩)
      · exact hnd e (List.mem_cons_of_mem _ he) e' h1
    · intro e he q hq₂
      rcases List.mem_append.mp hq₂ with h1 | h1
      · exact hql e (List.mem_cons_of_mem _ he) q h1
      · obtain rfl : q = (d.pos, c') := by simpa using h1
        exact fun x => hq'.1 (List.mem_map.mpr ⟨e, he, by
          have x1 : d.pos.line = e.pos.line := x.1
          have x2 : d.pos.col = e.pos.col := x.2
          show (e.pos.line, e.pos.col) = (d.pos.line, d.pos.col)
          rw [x1, x2]⟩)
    · refine h s'' mg'' l' (by simpa using T'') fun q hq₂ => ?_
      rcases hl' q hq₂ with h1 | ⟨e, he, h1⟩
      · rcases List.mem_append.mp h1 with h1 | h1
        · exact .inl h1
        · obtain rfl : q = (d.pos, c') := by simpa using h1
          exact .inr ⟨d, List.mem_cons_self, rfl⟩
      · exact .inr ⟨e, List.mem_cons_of_mem _ he, h1⟩
end
end Mine
end
section
open PySem PySem.W PyProof.Rows
set_option Elab.async false
namespace Mine
noncomputable def intConst : Expr → Option Int
  | .Constant (.int i) _ _ => some i
  | _ => none
section
variable {prog : Program} {w : World} {A : Around} {E : Value → Shared → Prop} {s : Shared} {env : Env}
theorem ints_ok : ∀ {es : List Expr} {ns : List Int} {pos : Pos} {s : Shared} {Q : List Value → Shared → Prop}, es.mapM intConst = some ns →
    (∀ vs k, IntsAre vs ns → s.toks ≤ k → Q vs { s with toks := k }) → wpAny (model prog w) A (spliced (backTo pos (starEach es env))) Q E s
  | [], ns, pos, s, Q, h, hQ => by
    cases h
    exact wpAny_items_nil (hQ [] s.toks .nil (Nat.le_refl _))
  | e :: r, ns, pos, s, Q, h, hQ => by
    rw [List.mapM_cons] at h
    obtain ⟨i, hi, h⟩ := Option.bind_eq_some_iff.mp h
    obtain ⟨ns', hn, h⟩ := Option.bind_eq_some_iff.mp h
    cases h
    unfold intConst at hi
    split at hi
    · cases hi
      refine wpAny_items_cons (wpAny_Constant_int (ints_ok hn fun vs k iv hk => ?_)) rfl
      exact hQ _ k (.cons _ _ iv) (Nat.le_trans (Nat.le_succ _) hk)
    · cases hi
noncomputable def span (a : Int) (n : Nat) : List Int := (List.range n).map fun i : Nat => a + (i : Int)
theorem ints_reps {h : Heap} {X : Addr → Prop} : ∀ {vs : List Value} {ns : List Int}, IntsAre vs ns → Reps h X (ns.map .int) vs
  | _, _, .nil => .nil
  | _, _, .cons _ _ h => .cons .int (ints_reps h)
theorem ints_of_reps {h : Heap} {X : Addr → Prop} : ∀ {ns : List Int} {vs : List Value}, Reps h X (ns.map .int) vs → IntsAre vs ns
  | [], vs, r => by unfold Reps at r; subst r; exact .nil
  | n :: ns, vs, r => by
    rw [List.map_cons] at r
    unfold Reps at r
    obtain ⟨v, t, rfl, h1, h2⟩ := r
    unfold Rep at h1
    obtain ⟨t', rfl⟩ := h1
    exact .cons _ _ (ints_of_reps h2)
theorem boot_name {x : Str} {pos : Pos} {mg mb : Str → Option Value} {v : Value} {Q : Value → Shared → Prop} (hk : env.scope.kind = .module) (hl : env.locals = env.globals)
    (hg : s.heap.Ns env.globals mg) (hb : s.heap.Ns env.builtins mb) (h1 : mg x = none) (h2 : mb x = some v) (hd : (x == ("__debug__" : Str)) = false) (h : Q v s) :
    wpAny (model prog w) A (eval (.Name x pos) env) Q E s :=
  Calls.Name_module hk hl (Calls.loadGlobal_builtin hg h1 hb h2 h) hd
theorem range_list_ok {n : Nat} {a b : Int} {t u v : Tok} {r : Addr} {Q : Value → Shared → Prop} (hh : A.handled = none) (hr : IsRange s.heap r a b 1 t u v) (ha : -(2 ^ 62) ≤ a) (ha' : a < 2 ^ 62) (hb : -(2 ^ 62) ≤ b) (hb' : b < 2 ^ 62)
    (hn : b - a = (n : Int)) (hlt : a < b) (hn' : n ≤ 2 ^ 24)
    (hQ : ∀ h' tk vs, Grown s.heap h' → h'.PlainList s.heap.objs.size vs.toArray → IntsAre vs (span a n) → Q (.ref s.heap.objs.size) { s with heap := h', toks := tk }) :
    wpAny (model prog w) A (call (.type "list") [.ref r]) Q E s := by
  refine call_list_range hh hr (small_one ha ha' hb hb') (by rw [rangeSize_one, if_pos hlt, hn]) hn' fun h' tk acc' c' hk hS' hacc => ?_
  have : IntsAre acc'.toList (span a n) := by
    have key : ∀ (m : Nat) (l : List Value) (k : Nat), l.length = m → (∀ j v, l[j]? = some v → ∃ t, v = Value.int (a + ((k + j : Nat) : Int) * 1) t) → IntsAre l ((List.range' k m).map fun i : Nat => a + (i : Int)) := by
      intro m
      induction m with
      | zero => intro l k hl _; rw [List.eq_nil_of_length_eq_zero hl]; exact .nil
      | succ m ih =>
        intro l k hl h
        cases l with
        | nil => cases hl
        | cons x r =>
          obtain ⟨t, rfl⟩ := h 0 x rfl
          rw [List.range'_succ, List.map_cons]
          have e : a + ((k + 0 : Nat) : Int) * 1 = a + (k : Int) := by rw [Int.mul_one]; rfl
          rw [e]
          refine .cons _ _ (ih r (k + 1) (by simpa using hl) fun j v hv => ?_)
          obtain ⟨t', e'⟩ := h (j + 1) v (by simpa using hv)
          exact ⟨t', by rw [e', Nat.add_right_comm, Nat.add_assoc]⟩
    unfold span
    rw [List.range_eq_range']
    refine key n acc'.toList 0 (by simp [hacc.1]) fun j v hv => ?_
    obtain ⟨t', e⟩ := hacc.2 j v (by simpa using hv)
    exact ⟨t', by rw [e, Nat.zero_add]⟩
  exact hQ h' tk acc'.toList hk ⟨c', hS'⟩ this
end
section
variable {prog : Program} {w : World} {A : Around} {E : Value → Shared → Prop} {s : Shared} {mg mb : Str → Option Value} {c F : Addr}
set_option maxRecDepth 10000
theorem set_expr_ok {es : List Expr} {ns : List Int} {a b : Int} {n : Nat} {k1 k2 : Nat} {p1 p2 p3 p4 p5 p6 p7 p8 p9 p10 : Pos} {Q : Value → Shared → Prop} (hmod : prog.main.scope.kind = .module) (hh : A.handled = none)
    (hg : s.heap.Ns mainGlobals mg) (hb : s.heap.Ns builtinsNs mb) (s1 : mg "set" = none) (s2 : mb "set" = some (.type "set")) (l1 : mg "list" = none) (l2 : mb "list" = some (.type "list")) (r1 : mg "range" = none) (r2 : mb "range" = some (.type "range"))
    (hes : es.mapM intConst = some ns) (hlen : ns.length ≤ 1000) (ha : -(2 ^ 62) ≤ a) (ha' : a < 2 ^ 62) (hb1 : -(2 ^ 62) ≤ b) (hb' : b < 2 ^ 62) (hn : b - a = (n : Int)) (hlt : a < b) (hn' : n ≤ 1000)
    (hQ : ∀ ad s', Grow s s' → s.toks ≤ s'.toks → (∀ b, (s.heap.get? b).isSome → b < ad) → s'.heap.SetOf (intKind prog w) ad (fun k' => (firstMet (fun i => (ns ++ span a n).getD i 0) (ns.length + n)).any (· == k')) (firstMet (fun i => (ns ++ span a n).getD i 0) (ns.length + n)).length → Q (.ref ad) s') :
    wpAny (model prog w) A (eval (.Call (.Name "set" p1) [.BinOp (.List es p2) .Add (.Call (.Name "list" p3) [.Call (.Name "range" p4) [.Constant (.int a) k1 p5, .Constant (.int b) k2 p6] [] p7] [] p8) p9] [] p10) (mainEnv prog c F)) Q E s := by
  refine toksOf ?_
  refine Call_Name rfl (boot_name hmod rfl hg hb s1 s2 rfl ?_)
  refine PyProof.Rows.callWith_type1 ?_
  refine wpAny_items_cons ?_ rfl
  refine PySem.wpAny_BinOp ?_
  refine PySem.wpAny_List (ints_ok hes fun vs k iv hk => ⟨by rw [PyProof.Rows.ints_len_eq iv, PySem.sizeLine_eq]; omega, ?_⟩)
  let s₁ : Shared := { s with toks := k }
  show wpAny _ _ _ _ _ { s with heap := s.heap.push { cls := .type "list", data := .seq vs.toArray }, toks := k }
  have g₁ : Grown s.heap (s.heap.push { cls := .type "list", data := .seq vs.toArray }) := fun _ _ e => Heap.get?_push_of_some _ e
  refine Call_Name rfl (boot_name hmod rfl (hg.keeps g₁) (hb.keeps g₁) l1 l2 rfl ?_)
  refine PyProof.Rows.callWith_type1 ?_
  refine wpAny_items_cons ?_ rfl
  refine Call_Name rfl (boot_name hmod rfl (hg.keeps g₁) (hb.keeps g₁) r1 r2 rfl ?_)
  refine PyProof.Rows.callWith_type1 ?_
  refine wpAny_items_cons (wpAny_Constant_int (wpAny_items_cons (wpAny_Constant_int (wpAny_items_nil ?_)) rfl)) rfl
  refine call_range_2 ?_
  refine wpAny_items_nil ?_
  refine range_list_ok hh (IsRange.new _ _ _ _ _ _ _) ha ha' hb1 hb' hn hlt (by omega) fun h₂ tk₂ ws gr pl iw => ?_
  have pl₁ : h₂.PlainList s.heap.objs.size vs.toArray := ⟨0, gr _ _ (Heap.get?_push_of_some _ (Heap.get?_push_size _ rfl))⟩
  have there : There (fun _ => False) h₂ := fun _ x => x.elim
  have rep : ∀ {a : Addr} {vs : List Value} {ns : List Int}, h₂.PlainList a vs.toArray → IntsAre vs ns → Weak h₂ (fun _ => False) (.list (ns.map .int)) (.ref a) := fun p i => ⟨_, _, rfl, p, ints_reps i⟩
  refine binop_ok (X := fun _ => False) (a := .list (ns.map .int)) (b := .list ((span a n).map .int)) (d := .list ((ns ++ span a n).map .int)) there ?_ (rep pl₁ iv) (rep pl iw) fun v s₃ g₃ r₃ => ?_
  · rw [List.map_append]
    show mkL _ = _
    unfold mkL
    rw [if_pos (by simp [span]; omega)]
  refine wpAny_items_nil ?_
  unfold Rep at r₃
  obtain ⟨ad, us, rfl, _, ⟨ep, hpl⟩, hr⟩ := r₃
  have iu := ints_of_reps hr
  have hul : us.toArray.size = ns.length + n := by
    have := PyProof.Rows.ints_len_eq iu
    simpa [span] using this
  refine PySem.call_set_list (ns := ns ++ span a n) hh ⟨_, hpl, rfl, ep, rfl⟩ (by simpa using iu) (by rw [hul]; unfold scanBound; omega) fun h' tk hs hk ht => ?_
  rw [hul] at hs
  refine hQ _ _ ⟨fun b o e => hk b o (Heap.lt_size (g₃.heap b o (gr b o (Heap.get?_push_of_some _ (g₁ b o e))))) (g₃.heap b o (gr b o (Heap.get?_push_of_some _ (g₁ b o e)))), g₃.gens, g₃.drawn, g₃.os⟩ ht ?_ hs
  intro b hb'
  obtain ⟨o, e⟩ := Option.isSome_iff_exists.mp hb'
  exact Heap.lt_size (g₃.heap b o (gr b o (Heap.get?_push_of_some _ (g₁ b o e))))
end
end Mine
end
section
open PySem PySem.W PyProof.Rows
set_option Elab.async false
namespace Mine
noncomputable def Vals : List (Int × Value) → List (Int × Str) → Prop
  | [], [] => True
  | (k, v) :: r, (k', x) :: r' => k = k' ∧ (∃ t, v = .str x t) ∧ Vals r r'
  | _, _ => False
theorem Vals.append : ∀ {a : List (Int × Value)} {b : List (Int × Str)} {c : List (Int × Value)} {d : List (Int × Str)}, Vals a b → Vals c d → Vals (a ++ c) (b ++ d)
  | [], [], _, _, _, h => h
  | (_, _) :: _, (_, _) :: _, _, _, ⟨h1, h2, h3⟩, h => ⟨h1, h2, Vals.append h3 h⟩
  | [], _ :: _, _, _, h, _ => h.elim
  | _ :: _, [], _, _, h, _ => h.elim
theorem Vals.keys : ∀ {a : List (Int × Value)} {b : List (Int × Str)}, Vals a b → a.map (·.1) = b.map (·.1)
  | [], [], _ => rfl
  | (_, _) :: _, (_, _) :: _, ⟨h1, _, h3⟩ => by rw [List.map_cons, List.map_cons, Vals.keys h3]; exact congrArg (· :: _) h1
  | [], _ :: _, h => h.elim
  | _ :: _, [], h => h.elim
theorem Vals.length {a : List (Int × Value)} {b : List (Int × Str)} (h : Vals a b) : a.length = b.length := by
  have := congrArg List.length h.keys
  simpa using this
noncomputable abbrev Tree2 := Sem Value × Sem Value
section
variable {prog : Program} {w : World} {A : Around} {E : Value → Shared → Prop} {s : Shared}
theorem dictPut_ok {d : Addr} {kvs : List (Int × Value)} {k : Int} {key v : Value} {Q : Unit → Shared → Prop} (hkey : (intKind prog w).is k key = true) (hm : s.heap.DictOf (intKind prog w) d kvs) (hnew : k ∉ kvs.map (·.1)) (hsz : kvs.length ≤ 100000)
    (hQ : ∀ h', h'.DictOf (intKind prog w) d (kvs ++ [(k, v)]) → Heap.SameBut d s.heap h' → Q () { s with heap := h' }) : wpAny (model prog w) A (dictPut d ((intKind prog w).hash k) key v) Q E s := by
  obtain ⟨o, es, ep, ho, hc, hd, hk, hp, hn⟩ := hm
  have hes : es.size ≤ sizeLine := by
    have e1 := hp.length
    have e2 : es.toList.length = es.size := by simp
    rw [PySem.sizeLine_eq]; omega
  unfold dictPut
  refine wpAny_bind (wpAny_dictFind_of hkey ho hd hk ?_)
  have hidx : (es.findIdx? fun e => (intKind prog w).is k e.key) = none := by
    have h1 : (es.findIdx? fun e => (intKind prog w).is k e.key) = kvs.findIdx? fun kv => decide (kv.1 = k) := by
      rw [← hp.findIdx k]; obtain ⟨l⟩ := es; simp
    rw [h1, List.findIdx?_eq_none_iff]
    intro x hx
    simp only [decide_eq_false_iff_not]
    exact fun e => hnew (List.mem_map.mpr ⟨x, hx, e⟩)
  rw [hidx]
  refine wpAny_updateDictKeys (hz := hes) ho hd (hQ _ ⟨_, _, ep + 1, Heap.get?_update_self _ ho (Obj.isFreed_of_dict (Obj.data_mapDictKeys hd _)),
      hc.mapDictKeys _, Obj.data_mapDictKeys hd _, hk.push hkey _, ?_, ?_⟩ (Heap.SameBut.update ..))
  · have := hp.append hkey ((intKind prog w).hash k) v
    obtain ⟨l⟩ := es
    simpa using this
  · rw [List.map_append, List.nodup_append]
    refine ⟨hn, by simp, ?_⟩
    intro a ha b hb
    simp only [List.map_cons, List.map_nil, List.mem_singleton] at hb
    subst hb
    exact fun e => hnew (e ▸ ha)
theorem stored_fresh {kvs : List (Int × Value)} {k : Int} {v : Value} (h : k ∉ kvs.map (·.1)) : stored kvs k v = kvs ++ [(k, v)] := by
  unfold stored
  rw [if_neg]
  rw [List.any_eq_true]
  rintro ⟨x, hx, e⟩
  exact h (List.mem_map.mpr ⟨x, hx, of_decide_eq_true e⟩)
noncomputable def PairOk (p : Tree2) (x : Int × Str) : Prop :=
  ∀ (prog : Program) (w : World) (A : Around) (E : Value → Shared → Prop) (s : Shared) (Q : Value → Shared → Prop),
    (Q (.int x.1 s.toks) { s with toks := s.toks + 1 } → wpAny (model prog w) A p.1 Q E s) ∧ (Q (.str x.2 s.toks) { s with toks := s.toks + 1 } → wpAny (model prog w) A p.2 Q E s)
inductive PairsOk : List Tree2 → List (Int × Str) → Prop
  | nil : PairsOk [] []
  | cons {p ps x xs} : PairOk p x → PairsOk ps xs → PairsOk (p :: ps) (x :: xs)
theorem evalPairs_ok : ∀ {ps : List Tree2} {xs : List (Int × Str)} {s : Shared} {Q : List (Value × Value) → Shared → Prop}, PairsOk ps xs →
    (∀ vs kvs k, Carries (intKind prog w) vs kvs → Vals kvs xs → s.toks ≤ k → Q vs { s with toks := k }) → wpAny (model prog w) A (evalPairs ps) Q E s
  | _, _, s, Q, .nil, hQ => evalPairs_nil (hQ [] [] s.toks trivial trivial (Nat.le_refl _))
  | (k, v) :: _, (i, x) :: _, s, Q, .cons h hs, hQ => by
    refine evalPairs_cons ((h prog w A E _ _).1 ((h prog w A E _ _).2 (evalPairs_ok hs fun vs kvs k hc hv hk => ?_)))
    exact hQ _ ((i, .str x (s.toks + 1)) :: kvs) k ⟨intKind_is _ _ _ _, rfl, hc⟩ ⟨rfl, ⟨_, rfl⟩, hv⟩ (Nat.le_trans (Nat.le_trans (Nat.le_succ _) (Nat.le_succ _)) hk)
theorem storeEach_ok {d : Addr} : ∀ {ps : List Tree2} {xs : List (Int × Str)} {acc : List (Int × Value)} {s : Shared} {Q : PUnit → Shared → Prop}, PairsOk ps xs →
    s.heap.DictOf (intKind prog w) d acc → (acc.map (·.1) ++ xs.map (·.1)).Nodup → acc.length + xs.length ≤ 100000 →
    (∀ h' kvs k, Vals kvs xs → h'.DictOf (intKind prog w) d (acc ++ kvs) → Heap.SameBut d s.heap h' → s.toks ≤ k → Q ⟨⟩ { s with heap := h', toks := k }) →
    wpAny (model prog w) A (forIn ps PUnit.unit fun (x : Tree2) (_ : PUnit) => (do let kv ← x.1; let vv ← holding [kv] x.2; holding [kv, vv] (dictSet d kv vv); pure (ForInStep.yield PUnit.unit) : Sem (ForInStep PUnit))) Q E s
  | _, _, acc, s, Q, .nil, hm, hn, hl, hQ => by
    rw [List.forIn_nil]
    exact wpAny_pure (hQ s.heap [] s.toks trivial (by simpa using hm) (Heap.SameBut.refl _ _) (Nat.le_refl _))
  | (k, v) :: ps, (i, x) :: xs, acc, s, Q, .cons h hs, hm, hn, hl, hQ => by
    rw [List.forIn_cons]
    simp only [List.map_cons, List.length_cons] at hn hl
    have hi : i ∉ acc.map (·.1) := fun q => (List.nodup_append.mp hn).2.2 i q i List.mem_cons_self rfl
    refine wpAny_bind (wpAny_bind ((h prog w A E _ _).1 (wpAny_bind (wpAny_holding ((h prog w A E _ _).2 (wpAny_bind (wpAny_holding (wpAny_dictSet_pairs (hsz := by rw [PySem.sizeLine_eq]; omega) (intKind_is _ _ _ _) hm fun h₁ hm₁ hs₁ => wpAny_pure ?_))))))))
    rw [stored_fresh hi] at hm₁
    refine storeEach_ok (acc := acc ++ [(i, Value.str x (s.toks + 1))]) hs hm₁ (by simpa [List.append_assoc] using hn) (by simp; omega) fun h' kvs k hv hm' hs' hk => ?_
    exact hQ h' ((i, .str x (s.toks + 1)) :: kvs) k ⟨rfl, ⟨_, rfl⟩, hv⟩ (by simpa using hm') (hs₁.trans hs') (by
      have : s.toks + 1 + 1 + 1 ≤ k := hk
      omega)
theorem dictOf_new (h : Heap) : (h.push { cls := .type "dict", data := .dict #[] }).DictOf (intKind prog w) h.objs.size [] :=
  ⟨_, #[], 0, Heap.get?_push_size _ rfl, ⟨rfl, rfl, rfl⟩, rfl, fun e he => (by simp at he), .nil, List.nodup_nil⟩
theorem grown_of {h h₁ h' : Heap} {d : Addr} (g : Grown h h₁) (hd : h.get? d = none) (sb : Heap.SameBut d h₁ h') : Grown h h' := fun b o e => by
  have hne : b ≠ d := fun q => by rw [q, hd] at e; cases e
  exact (sb.2 b hne).trans (g b o e)
theorem subDict_ok {ps : List Tree2} {xs : List (Int × Str)} {Q : Addr → Shared → Prop} (h : PairsOk ps xs) (hn : (xs.map (·.1)).Nodup) (hl : xs.length ≤ 1000)
    (hQ : ∀ h' kvs k, Grown s.heap h' → Vals kvs xs → h'.DictOf (intKind prog w) s.heap.objs.size kvs → s.toks ≤ k → Q s.heap.objs.size { s with heap := h', toks := k }) :
    wpAny (model prog w) A (subDict ps) Q E s := by
  have hgp : Grown s.heap (s.heap.push { cls := .type "dict", data := .dict #[] }) := fun _ _ e => Heap.get?_push_of_some _ e
  have hnone := get_size_none s.heap
  by_cases hlen : ps.length ≤ 15
  · refine wpAny_subDict (knd := intKind prog w) hlen (evalPairs_ok h fun vs kvs k hc hv hk => ⟨kvs, hc, dictOf_new _, fun h' hm' hs' => ?_⟩)
    refine hQ h' kvs _ (grown_of hgp hnone hs') hv ?_ (Nat.le_trans hk (Nat.le_add_right _ _))
    rwa [merged_nil_of_nodup _ (by rw [hv.keys]; exact hn)] at hm'
  · unfold subDict
    refine wpAny_bind (wpAny_alloc (wpAny_bind (wpAny_holding ?_)))
    rw [if_neg hlen]
    refine wpAny_bind (wpAny_rule (wpAny_bind (storeEach_ok (acc := []) h (dictOf_new _) (by simpa using hn) (by simp; omega) fun h' kvs k hv hm' hs' hk => wpAny_pure (wpAny_pure ?_))))
    exact hQ h' kvs k (grown_of hgp hnone hs') hv (by simpa using hm') hk
theorem merge_ok {d a : Addr} {acc kvs : List (Int × Value)} {Q : Unit → Shared → Prop} (hda : d ≠ a) (haS : (a == sysModules) = false) (hne : acc ≠ [])
    (hd : s.heap.DictOf (intKind prog w) d acc) (ha : s.heap.DictOf (intKind prog w) a kvs) (hn : (acc.map (·.1) ++ kvs.map (·.1)).Nodup) (hl : acc.length + kvs.length ≤ 100000)
    (hQ : ∀ h', h'.DictOf (intKind prog w) d (acc ++ kvs) → Heap.SameBut d s.heap h' → Q () { s with heap := h' }) : wpAny (model prog w) A (mergeMapping d (.ref a) false) Q E s := by
  obtain ⟨od, esd, epd, hod, hcd, hdd, hkd, hpd, hnd⟩ := id hd
  obtain ⟨oa, es, ep, ho, hc, hda', hk, hp, hna⟩ := id ha
  unfold mergeMapping
  have hsz : kvs.length = es.size := by rw [← hp.length]; simp
  refine wpAny_bind (wpAny_isInstance ha.typeIs isSubtype_dict_dict ?_)
  dsimp only
  rw [if_pos rfl]
  refine wpAny_bind (wpAny_specialOf ha.typeIs F.slot_dict_iter.lookup (wpAny_bind (wpAny_pure ?_)))
  rw [show ((some (Value.builtin "dict.__iter__") : Option Value) == some (.builtin "dict.__iter__")) = true from by rfl]
  dsimp only
  rw [if_neg (by rw [haS]; exact Bool.false_ne_true)]
  refine wpAny_bind (wpAny_dictEntries hod hdd ?_)
  have hemp : esd.isEmpty = false := by
    cases e : esd.isEmpty with
    | false => rfl
    | true =>
      rw [Array.isEmpty_iff] at e
      subst e
      have := hpd.length
      exact (hne (List.eq_nil_of_length_eq_zero (by simpa using this.symm))).elim
  rw [hemp, if_neg Bool.false_ne_true]
  refine wpAny_bind (wpAny_dictEntries ho hda' ?_)
  refine wpAny_bind (wpAny_dictEpoch ho hda' ?_)
  refine wpAny_bind (wpAny_forIn_list _
    (fun rest _ s' => ∃ h' i, s' = { s with heap := h' } ∧ rest = List.range' i (es.size - i) ∧ i ≤ es.size ∧ h'.DictOf (intKind prog w) d (acc ++ kvs.take i) ∧ h'.get? a = some oa ∧ Heap.SameBut d s.heap h')
    _ ?_ ?_ _ _ ⟨s.heap, 0, rfl, by rw [List.range_eq_range', Nat.sub_zero], Nat.zero_le _, by simpa using hd, ho, Heap.SameBut.refl _ _⟩)
  · rintro x rest b s' ⟨h', i, rfl, hr, hi, hd', ho', hs'⟩
    have hlt : i < es.size := by
      rcases Nat.lt_or_ge i es.size with q | q
      · exact q
      · rw [Nat.sub_eq_zero_of_le q] at hr; simp at hr
    obtain ⟨rfl, hrest⟩ : x = i ∧ rest = List.range' (i + 1) (es.size - (i + 1)) := by
      have e : es.size - i = (es.size - (i + 1)) + 1 := by omega
      rw [e, List.range'_succ] at hr
      injection hr with h1 h2
      exact ⟨h1, h2⟩
    refine wpAny_bind (wpAny_dictEntries ho' hda' ?_)
    rw [Array.getElem?_eq_getElem hlt]
    have hlk : x < kvs.length := by omega
    rcases hkv : kvs[x] with ⟨k, v⟩
    have hkv' : kvs[x]? = some (k, v) := by rw [List.getElem?_eq_getElem hlk, hkv]
    obtain ⟨hkey, hval⟩ := hp.get? (e := es[x]) (by simp [hlt]) hkv'
    obtain ⟨k', hkey', hhash⟩ := hk es[x] (Array.getElem_mem hlt)
    obtain rfl : k' = k := (intKind prog w).inj _ _ _ hkey' hkey
    show wpAny _ _ (holding [es[x].key, es[x].val] _ >>= _) _ _ _
    refine wpAny_bind (wpAny_holding ?_)
    rw [if_neg Bool.false_ne_true]
    rw [hhash, hval]
    have htake : kvs.take (x + 1) = kvs.take x ++ [(k', v)] := by rw [List.take_add_one, hkv']; rfl
    have hnew : k' ∉ (acc ++ kvs.take x).map (·.1) := by
      have h1 : ((acc ++ kvs.take (x + 1)).map (·.1)).Nodup := by
        refine hn.sublist ?_
        rw [List.map_append]
        exact List.Sublist.append_left (List.Sublist.map _ (List.take_sublist _ _)) _
      rw [htake, ← List.append_assoc, List.map_append, List.nodup_append] at h1
      exact fun q => h1.2.2 k' q k' (by simp) rfl
    have hlen : (acc ++ kvs.take x).length ≤ 100000 := by
      rw [List.length_append, List.length_take]; omega
    refine dictPut_ok hkey hd' hnew hlen fun h'' hd'' hs'' => ?_
    have ho'' : h''.get? a = some oa := (hs''.2 a (Ne.symm hda)).trans ho'
    refine wpAny_bind (wpAny_dictEpoch ho'' hda' ?_)
    rw [if_neg (by simp)]
    exact wpAny_pure ⟨h'', x + 1, rfl, hrest, hlt, by rw [htake, ← List.append_assoc]; exact hd'', ho'', hs'.trans hs''⟩
  · rintro b s' ⟨h', i, rfl, hr, hi, hd', ho', hs'⟩
    have hin : i = es.size := by
      rcases Nat.lt_or_ge i es.size with q | q
      · have e : es.size - i = (es.size - (i + 1)) + 1 := by omega
        rw [e, List.range'_succ] at hr; exact nomatch hr
      · exact Nat.le_antisymm hi q
    rw [hin, ← hsz, List.take_length] at hd'
    exact wpAny_pure (hQ h' hd' hs')
end
end Mine
end
section
open PySem PySem.W PyProof.Rows
set_option Elab.async false
namespace Mine
noncomputable def NewAt (h : Heap) (a : Addr) : Prop := ∀ b, (h.get? b).isSome → b < a
theorem NewAt.none {h : Heap} {a : Addr} (n : NewAt h a) : h.get? a = none := by
  cases e : h.get? a with
  | none => rfl
  | some o => exact absurd (n a (by rw [e]; rfl)) (Nat.lt_irrefl _)
theorem newAt_size {h h' : Heap} (g : Grown h h') : NewAt h h'.objs.size := fun b hb => by
  obtain ⟨o, e⟩ := Option.isSome_iff_exists.mp hb
  exact Heap.lt_size (g b o e)
section
variable {prog : Program} {w : World} {A : Around} {E : Value → Shared → Prop} {s : Shared}
noncomputable def lift2 (p : Tree2) : Option (Sem Value) × Sem Value := (some p.1, p.2)
theorem PairsOk.append : ∀ {a b : List Tree2} {x y : List (Int × Str)}, PairsOk a x → PairsOk b y → PairsOk (a ++ b) (x ++ y)
  | _, _, _, _, .nil, h => h
  | _, _, _, _, .cons h hs, h' => .cons h (hs.append h')
theorem PairsOk.length : ∀ {ps : List Tree2} {xs : List (Int × Str)}, PairsOk ps xs → ps.length = xs.length
  | _, _, .nil => rfl
  | _, _, .cons _ h => by simp [h.length]
noncomputable def SoFar (prog : Program) (w : World) (h₀ h : Heap) (d : Option Addr) (xs : List (Int × Str)) : Prop :=
  (d = none ∧ xs = []) ∨ (xs ≠ [] ∧ ∃ a kvs, d = some a ∧ NewAt h₀ a ∧ Vals kvs xs ∧ h.DictOf (intKind prog w) a kvs)
theorem display_ok {ps : List Tree2} {xs : List (Int × Str)} {Q : Value → Shared → Prop} (hps : PairsOk ps xs) (hn : (xs.map (·.1)).Nodup) (hl : xs.length ≤ 10000) (hne : xs ≠ []) (hsys : (s.heap.get? sysModules).isSome)
    (hQ : ∀ h' k a kvs, Grown s.heap h' → NewAt s.heap a → Vals kvs xs → h'.DictOf (intKind prog w) a kvs → s.toks ≤ k → Q (.ref a) { s with heap := h', toks := k }) :
    wpAny (model prog w) A (dictDisplay (ps.map lift2)) Q E s := by
  unfold dictDisplay
  extract_lets flush
  have hfl : ∀ {run : List Tree2} {xs ys : List (Int × Str)} {d : Option Addr} {h₁ : Heap} {k₁ : Nat} {Q : Option Addr → Shared → Prop}, Grown s.heap h₁ → s.toks ≤ k₁ → PairsOk run ys → ((xs ++ ys).map (·.1)).Nodup → (xs ++ ys).length ≤ 10000 → ys.length ≤ 1000 → SoFar prog w s.heap h₁ d xs →
      (∀ h' k d', Grown s.heap h' → s.toks ≤ k → SoFar prog w s.heap h' d' (xs ++ ys) → Q d' { s with heap := h', toks := k }) → wpAny (model prog w) A (flush run d) Q E { s with heap := h₁, toks := k₁ } := by
    intro run xs ys d h₁ k₁ Q g ht hrun hn hl hr hd hQ
    cases hrun with
    | nil =>
      show wpAny _ _ (if ([] : List Tree2).isEmpty = true then _ else _) _ _ _
      rw [if_pos (by rfl)]
      exact wpAny_pure (hQ h₁ k₁ d g ht (by simpa using hd))
    | @cons p ps x zs hp hps =>
      show wpAny _ _ (if (p :: ps).isEmpty = true then _ else _) _ _ _
      rw [if_neg (by simp)]
      have hrun : PairsOk (p :: ps) (x :: zs) := .cons hp hps
      have hny : ((x :: zs).map (·.1)).Nodup := by rw [List.map_append] at hn; exact (List.nodup_append.mp hn).2.1
      rcases hd with ⟨rfl, rfl⟩ | ⟨hx, a, kvs, rfl, na, hv, hm⟩
      · refine wpAny_bind (subDict_ok hrun hny hr fun h' kvs k gr hv hm hk => wpAny_pure ?_)
        refine hQ h' k _ (fun b o e => gr b o (g b o e)) (Nat.le_trans ht hk) (.inr ⟨by simp, _, kvs, rfl, newAt_size g, by simpa using hv, hm⟩)
      · refine wpAny_bind (wpAny_holding (subDict_ok hrun hny hr fun h' kvs' k gr hv' hm' hk => ?_))
        have ha : (h₁.get? a).isSome := by obtain ⟨o, _, _, e, _⟩ := hm; rw [e]; rfl
        have g' : Grown s.heap h' := fun b o e => gr b o (g b o e)
        have hm₂ : h'.DictOf (intKind prog w) a kvs := by
          obtain ⟨o, es, ep, e, r⟩ := hm
          exact ⟨o, es, ep, gr _ _ e, r⟩
        have hne2 : a ≠ h₁.objs.size := fun q => by
          rw [q, get_size_none] at ha; cases ha
        refine wpAny_bind (wpAny_onRaise (wpAny_holding (merge_ok hne2 ?_ ?_ hm₂ hm' ?_ ?_ fun h'' hm₃ hs'' => wpAny_pure ?_)))
        · obtain ⟨o, e⟩ := Option.isSome_iff_exists.mp hsys
          exact beq_eq_false_iff_ne.mpr fun q => by
            have := g _ _ e
            rw [← q, get_size_none] at this; cases this
        · intro q
          subst q
          cases xs with
          | nil => exact hx rfl
          | cons _ _ => exact hv.elim
        · rw [hv.keys, hv'.keys, ← List.map_append]; exact hn
        · rw [hv.length, hv'.length, ← List.length_append]; omega
        · exact hQ h'' k _ (grown_of g' na.none hs'') (Nat.le_trans ht hk) (.inr ⟨by simp, a, _, rfl, na, hv.append hv', hm₃⟩)
  refine wpAny_bind (wpAny_forIn_list _
    (fun (rest : List (Option (Sem Value) × Sem Value)) (b : Option Addr × List Tree2) s' => ∃ h₁ k₁ xs₁ ys₁ zs₁ rest', s' = { s with heap := h₁, toks := k₁ } ∧ Grown s.heap h₁ ∧ s.toks ≤ k₁ ∧ rest = rest'.map lift2 ∧ PairsOk rest' zs₁ ∧ PairsOk b.2 ys₁ ∧ b.2.length < 17 ∧ SoFar prog w s.heap h₁ b.1 xs₁ ∧ xs₁ ++ ys₁ ++ zs₁ = xs)
    (fun b s' => wpAny (model prog w) A (flush b.2 b.1 >>= fun r => (match r with | some d => pure (.ref d) | none => newDict : Sem Value)) Q E s') ?_ ?_ _ _ ⟨s.heap, s.toks, [], [], xs, ps, rfl, fun _ _ e => e, Nat.le_refl _, rfl, hps, .nil, by decide, .inl ⟨rfl, rfl⟩, rfl⟩)
  · rintro x rest ⟨d, run⟩ s' ⟨h₁, k₁, xs₁, ys₁, zs₁, rest', rfl, g, ht, hr, hz, hy, hlen, hd, hall⟩
    cases hz with
    | nil => cases hr
    | @cons p ps x' zs hp hps' =>
      rw [List.map_cons] at hr
      injection hr with h1 h2
      subst h1
      have hrun : PairsOk (run ++ [p]) (ys₁ ++ [x']) := hy.append (.cons hp .nil)
      have hall' : xs₁ ++ (ys₁ ++ [x']) ++ zs = xs := by rw [← hall]; simp
      show wpAny _ _ (if ((run ++ [p]).length == 17) = true then _ else _) _ _ _
      by_cases h17 : ((run ++ [p]).length == 17) = true
      · rw [if_pos h17]
        have e17 : (ys₁ ++ [x']).length = 17 := by rw [← hrun.length]; exact eq_of_beq h17
        refine wpAny_bind (hfl g ht hrun ?_ ?_ ?_ hd fun h' k d' g' ht' hd' => wpAny_pure ?_)
        · rw [← hall', List.map_append] at hn
          exact (List.nodup_append.mp hn).1
        · have := congrArg List.length hall'
          rw [List.length_append] at this
          omega
        · omega
        · exact ⟨h', k, _, [], zs, ps, rfl, g', ht', h2, hps', .nil, by show 0 < 17; decide, hd', by simpa using hall'⟩
      · rw [if_neg h17]
        refine wpAny_pure ⟨h₁, k₁, xs₁, _, zs, ps, rfl, g, ht, h2, hps', hrun, ?_, hd, hall'⟩
        have h4 : (run ++ [p]).length ≠ 17 := fun q => h17 (by rw [q]; rfl)
        have h3 : (run ++ [p]).length = run.length + 1 := by simp
        have h5 : run.length < 17 := hlen
        show (run ++ [p]).length < 17
        omega
  · rintro ⟨d, run⟩ s' ⟨h₁, k₁, xs₁, ys₁, zs₁, rest', rfl, g, ht, hr, hz, hy, hlen, hd, hall⟩
    have hrest : rest' = [] := List.map_eq_nil_iff.mp hr.symm
    subst hrest
    cases hz
    rw [List.append_nil] at hall
    subst hall
    dsimp only at hlen hy hd ⊢
    refine wpAny_bind (hfl g ht hy hn hl ?_ hd fun h' k d' g' ht' hd' => ?_)
    · rw [← hy.length]; omega
    · rcases hd' with ⟨_, e⟩ | ⟨_, a, kvs, rfl, na, hv, hm⟩
      · exact (hne e).elim
      · exact wpAny_pure (hQ h' k a kvs g' na hv hm ht')
end
end Mine
end
section
open PySem PySem.W PyProof.Rows
set_option Elab.async false
namespace Mine
noncomputable def intOfE : Expr → Option Int
  | .Constant c _ _ => (match c with | .int i => some i | _ => none)
  | _ => none
theorem intOfE_is {e : Expr} {i : Int} (h : intOfE e = some i) : ∃ k p, e = .Constant (.int i) k p := by
  cases e with
  | Constant c k p =>
    cases c with
    | int j => cases h; exact ⟨k, p, rfl⟩
    | _ => exact nomatch h
  | _ => exact nomatch h
noncomputable def dictLit : List (Option Expr) → List Expr → Option (List (Int × Str))
  | [], vs => if vs.isEmpty = true then some [] else none
  | k :: ks, vs => k.bind fun e => (match vs with
    | v :: vs => (intOfE e).bind fun i => (strOfE v).bind fun x => (dictLit ks vs).map ((i, x) :: ·)
    | [] => none)
noncomputable def rising : List (Int × Str) → Bool
  | [] => true
  | [_] => true
  | (a, _) :: (b, x) :: r => decide (a < b) && rising ((b, x) :: r)
theorem rising_lt : ∀ {l : List (Int × Str)} {a : Int} {x : Str}, rising ((a, x) :: l) = true → ∀ p ∈ l, a < p.1
  | (b, y) :: r, a, x, h, p, hp => by
    simp only [rising, Bool.and_eq_true, decide_eq_true_eq] at h
    rcases List.mem_cons.mp hp with rfl | hp
    · exact h.1
    · exact Int.lt_trans h.1 (rising_lt h.2 p hp)
theorem rising_tail {l : List (Int × Str)} {p : Int × Str} (h : rising (p :: l) = true) : rising l = true := by
  cases l with
  | nil => rfl
  | cons q r => simp only [rising, Bool.and_eq_true] at h; exact h.2
theorem rising_nodup : ∀ {l : List (Int × Str)}, rising l = true → (l.map (·.1)).Nodup
  | [], _ => List.nodup_nil
  | (a, x) :: r, h => by
    rw [List.map_cons, List.nodup_cons]
    refine ⟨fun q => ?_, rising_nodup (rising_tail h)⟩
    obtain ⟨p, hp, e⟩ := List.mem_map.mp q
    have := rising_lt h p hp
    have e' : p.1 = a := e
    omega
section
variable {prog : Program} {w : World} {A : Around} {E : Value → Shared → Prop} {s : Shared} {env : Env}
theorem dictLit_ok (pos : Pos) : ∀ {ks : List (Option Expr)} {vs : List Expr} {xs : List (Int × Str)}, dictLit ks vs = some xs →
    ∃ ps, (evalEachOpt ks env).zip ((evalEach vs env).map fun v => (do let x ← v; standAt pos; pure x : Sem Value)) = ps.map lift2 ∧ PairsOk ps xs
  | [], vs, xs, h => by
    cases vs with
    | nil => cases h; exact ⟨[], rfl, .nil⟩
    | cons v vs => exact nomatch h
  | none :: ks, vs, xs, h => nomatch h
  | some e :: ks, [], xs, h => nomatch h
  | some e :: ks, v :: vs, xs, h => by
    obtain ⟨i, hi, h⟩ := Option.bind_eq_some_iff.mp (show ((intOfE e).bind fun i => (strOfE v).bind fun x => (dictLit ks vs).map ((i, x) :: ·)) = some xs from h)
    obtain ⟨x, hx, h⟩ := Option.bind_eq_some_iff.mp h
    obtain ⟨k, p, rfl⟩ := intOfE_is hi
    obtain ⟨k', p', rfl⟩ := strOfE_is hx
    obtain ⟨xs', h', rfl⟩ := Option.map_eq_some_iff.mp h
    obtain ⟨ps, e, hp⟩ := dictLit_ok pos h'
    refine ⟨(eval (.Constant (.int i) k p) env, do let x ← eval (.Constant (.str x) k' p') env; standAt pos; pure x) :: ps, ?_, .cons (fun prog w A E s Q => ⟨fun h => wpAny_Constant_int (env := env) (k := k) (pos := p) h, fun h => wpAny_bind (wpAny_Constant_str (env := env) (k := k') (pos := p') (wpAny_bind (wpAny_standAt (wpAny_pure h))))⟩) hp⟩
    rw [List.map_cons, ← e]
    rfl
theorem dict_expr_ok {ks : List (Option Expr)} {vs : List Expr} {pos : Pos} {xs : List (Int × Str)} {Q : Value → Shared → Prop} (hx : dictLit ks vs = some xs) (hr : rising xs = true) (hl : xs.length ≤ 10000) (hne : xs ≠ []) (hsys : (s.heap.get? sysModules).isSome)
    (hQ : ∀ h' k a kvs, Grown s.heap h' → NewAt s.heap a → Vals kvs xs → h'.DictOf (intKind prog w) a kvs → s.toks ≤ k → Q (.ref a) { s with heap := h', toks := k }) :
    wpAny (model prog w) A (eval (.Dict ks vs pos) env) Q E s := by
  obtain ⟨ps, e, hp⟩ := dictLit_ok (env := env) pos hx
  rw [arm_eval_Dict, e]
  exact wpAny_bind (wpAny_standAt (display_ok hp (rising_nodup hr) hl hne hsys hQ))
end
section
variable {prog : Program} {w : World} {A : Around} {E : Value → Shared → Prop} {s₀ s s₁ : Shared} {mg₀ mg mb : Str → Option Value} {c Pl F : Addr} {done : List DefRec} {l : List (Pos × Addr)} {ns : List Str} {vs : List (Str × Value)} {objs : List (Addr × Obj)}
theorem TopSt.Pl_lt (T : TopSt s₀ mg₀ c Pl done l ns vs objs mg s) : (s.heap.get? Pl).isSome := by
  obtain ⟨_, _, _, _, _, _, _, _, _, op, _, _, _, _, _, _, _, h, _⟩ := T.main.code
  rw [h]; rfl
theorem TopSt.assignSet (T : TopSt s₀ mg₀ c Pl done l ns vs objs mg s) {x : Str} {pos pos' : Pos}
    (hloc : prog.main.scope.names.lookup x = some .local) (hmod : prog.main.scope.kind = .module)
    (hx : x ≠ "__builtins__") (hd : ∀ e ∈ done, e.name ≠ x) (hv : ∀ p ∈ vs, p.1 ≠ x) (hh : A.handled = none) (hb : s.heap.Ns builtinsNs mb)
    (s1 : mg "set" = none) (s2 : mb "set" = some (.type "set")) (l1 : mg "list" = none) (l2 : mb "list" = some (.type "list")) (r1 : mg "range" = none) (r2 : mb "range" = some (.type "range"))
    {es : List Expr} {is : List Int} {a b : Int} {n : Nat} {k1 k2 : Nat} {p1 p2 p3 p4 p5 p6 p7 p8 p9 p10 : Pos}
    (hes : es.mapM intConst = some is) (hlen : is.length ≤ 1000) (ha : -(2 ^ 62) ≤ a) (ha' : a < 2 ^ 62) (hb1 : -(2 ^ 62) ≤ b) (hb' : b < 2 ^ 62) (hn : b - a = (n : Int)) (hlt : a < b) (hn' : n ≤ 1000)
    {rest : List Stmt} {Q : Flow → Shared → Prop}
    (h : ∀ ad o s', (∀ h : Heap, h.get? ad = some o → h.SetOf (intKind prog w) ad (fun k' => (firstMet (fun i => (is ++ span a n).getD i 0) (is.length + n)).any (· == k')) (firstMet (fun i => (is ++ span a n).getD i 0) (is.length + n)).length) →
      TopSt s₀ mg₀ c Pl done l (x :: ns) ((x, .ref ad) :: vs) ((ad, o) :: objs) (fun z => if z = x then some (.ref ad) else mg z) s' → wpAny (model prog w) A (execs rest (mainEnv prog c F)) Q E s') :
    wpAny (model prog w) A (execs (.Assign [.Name x pos'] (.Call (.Name "set" p1) [.BinOp (.List es p2) .Add (.Call (.Name "list" p3) [.Call (.Name "range" p4) [.Constant (.int a) k1 p5, .Constant (.int b) k2 p6] [] p7] [] p8) p9] [] p10) pos :: rest) (mainEnv prog c F)) Q E s := by
  refine T.assign (by rfl) hloc hmod hx hd hv (set_expr_ok hmod hh T.main.g hb s1 s2 l1 l2 r1 r2 hes hlen ha ha' hb1 hb' hn hlt hn' fun ad s' g t hnew hs => ?_)
  obtain ⟨o, es', ep, t', ho, rest'⟩ := hs
  exact ⟨[(ad, o)], (T.grow g t).more (by simpa using ⟨ho, hnew Pl T.Pl_lt⟩), fun s'' T' => h ad o s'' (fun h e => ⟨o, es', ep, t', e, rest'⟩) T'⟩
theorem TopSt.assignDict (T : TopSt s₀ mg₀ c Pl done l ns vs objs mg s) {x : Str} {pos pos' pos'' : Pos}
    (hloc : prog.main.scope.names.lookup x = some .local) (hmod : prog.main.scope.kind = .module)
    (hx : x ≠ "__builtins__") (hd : ∀ e ∈ done, e.name ≠ x) (hv : ∀ p ∈ vs, p.1 ≠ x) (hsys : (s₀.heap.get? sysModules).isSome)
    {ks : List (Option Expr)} {vals : List Expr} {xs : List (Int × Str)} (hxs : dictLit ks vals = some xs) (hr : rising xs = true) (hl : xs.length ≤ 10000) (hne : xs ≠ [])
    {rest : List Stmt} {Q : Flow → Shared → Prop}
    (h : ∀ ad o kvs s', Vals kvs xs → (∀ h : Heap, h.get? ad = some o → h.DictOf (intKind prog w) ad kvs) →
      TopSt s₀ mg₀ c Pl done l (x :: ns) ((x, .ref ad) :: vs) ((ad, o) :: objs) (fun z => if z = x then some (.ref ad) else mg z) s' → wpAny (model prog w) A (execs rest (mainEnv prog c F)) Q E s') :
    wpAny (model prog w) A (execs (.Assign [.Name x pos'] (.Dict ks vals pos'') pos :: rest) (mainEnv prog c F)) Q E s := by
  have hsys' : (s.heap.get? sysModules).isSome := by
    obtain ⟨o, e⟩ := Option.isSome_iff_exists.mp hsys
    rw [T.keep _ _ (by decide) e]; rfl
  refine T.assign (by rfl) hloc hmod hx hd hv (dict_expr_ok hxs hr hl hne hsys' fun h' k ad kvs g hnew hvals hd' ht => ?_)
  obtain ⟨o, es', ep, ho, rest'⟩ := hd'
  exact ⟨[(ad, o)], (T.grow (s₁ := { s with heap := h', toks := k }) ⟨g, rfl, rfl, rfl⟩ ht).more (by simpa using ⟨ho, hnew Pl T.Pl_lt⟩), fun s'' T' => h ad o kvs s'' hvals (fun h e => ⟨o, es', ep, e, rest'⟩) T'⟩
end
end Mine
end
section
open PySem PySem.W PyProof.Rows
set_option Elab.async false
set_option maxRecDepth 100000
namespace Mine
namespace FS
theorem lk_compile : typeLookup (.type "module") "compile" = pure none := by rw [typeLookup_type, builtinLookup_eq_fast]; kernel_rfl
theorem handed_compile : handedOut (.builtin "_sre.compile") = pure (.builtin "_sre.compile") := by kernel_rfl
theorem entry_compile : entryFor table "_sre.compile" = some Builtin.«_sre.compile» := entryFor_of_tree (by kernel_rfl)
theorem kind_compile : builtinKind "_sre.compile" = none := by decide +kernel
theorem plain_compile : plainId "_sre.compile" = true := by decide +kernel
theorem args_compile (a b c d e f : Value) : argsOk "_sre.compile" ⟨[a, b, c, d, e, f], []⟩ := by unfold argsOk; kernel_rfl
theorem named_compile (a b c d e f : Value) : Builtin.Re.reNamed "_sre.compile" "compile" ["pattern", "flags", "code", "groups", "groupindex", "indexgroup"] 6 [a, b, c, d, e, f] [] = pure [some a, some b, some c, some d, some e, some f] := by kernel_rfl
end FS
section
variable {prog : Program} {w : World} {A : Around} {E : Value → Shared → Prop} {s : Shared}
theorem asIndex_int {i : Int} {t : Tok} {Q : Int → Shared → Prop} (h : Q i s) : wpAny (model prog w) A (asIndex (.int i t)) Q E s := by
  unfold asIndex
  exact wpAny_pure h
theorem words_ok {α : Type} (f : Value → Array Nat → Sem (ForInStep (Array Nat))) (hf : ∀ (i : Int) (t : Tok) (ws : Array Nat) (s : Shared) (Q : ForInStep (Array Nat) → Shared → Prop), 0 ≤ i → i < 2 ^ 32 → Q (.yield (ws.push i.toNat)) s → wpAny (model prog w) A (f (.int i t) ws) Q E s) :
    ∀ {vs : List Value} {ns : List Int} {ws : Array Nat} {Q : Array Nat → Shared → Prop}, IntsAre vs ns → (∀ i ∈ ns, 0 ≤ i ∧ i < 2 ^ 32) → Q (ws ++ (ns.map Int.toNat).toArray) s → wpAny (model prog w) A (forIn vs ws f) Q E s
  | _, _, ws, Q, .nil, _, h => by rw [List.forIn_nil]; exact wpAny_pure (by simpa using h)
  | _, _, ws, Q, .cons n t hs, hn, h => by
    rw [List.forIn_cons]
    refine wpAny_bind (hf n t ws s _ (hn n List.mem_cons_self).1 (hn n List.mem_cons_self).2 ?_)
    exact words_ok (α := α) f hf hs (fun i hi => hn i (List.mem_cons_of_mem _ hi)) (by simpa using h)
theorem compile_ok {pat : Str} {t1 t2 t3 : Tok} {l d tu : Addr} {lv : Array Value} {ns : List Int} {Q : Value → Shared → Prop}
    (hl : s.heap.PlainList l lv) (hns : IntsAre lv.toList ns) (hrange : ∀ i ∈ ns, 0 ≤ i ∧ i < 2 ^ 32) (hwf : Sre.wellFormed (ns.map Int.toNat).toArray 0 = true) (hlen : ns.length ≤ 1000)
    (hd : s.heap.get? d = some { cls := .type "dict", data := .dict #[] }) (hds : (d == sysModules) = false) (htu : s.TypeIs (.ref tu) "tuple")
    (hQ : ∀ ad T s', Grow s s' → NewAt s.heap ad → NewAt s.heap T → s'.heap.get? T = some { cls := .type "tuple", data := .seq (((ns.map Int.toNat).map fun w : Nat => rawInt w)).toArray } →
      (∃ t, s'.heap.get? ad = some { cls := .type "re.Pattern", data := .fields #[.str pat t1, .int 32 t, rawInt 0, .none, .none, .ref T, rawInt 0] }) → Q (.ref ad) s') :
    wpAny (model prog w) A (call (.builtin "_sre.compile") [.str pat t1, .int 32 t2, .ref l, .int 0 t3, .ref d, .ref tu]) Q E s := by
  refine Calls.call_function_entry FS.kind_compile FS.plain_compile FS.entry_compile (FS.args_compile ..) ?_
  unfold Builtin.«_sre.compile»
  refine wpAny_bind (wpAny_of_eq (FS.named_compile ..) ?_)
  dsimp only
  refine wpAny_bind (asIndex_int ?_)
  rw [if_neg (by decide)]
  obtain ⟨n, hl⟩ := hl
  refine wpAny_bind (wpAny_isInstance (T := "list") ⟨_, hl, rfl⟩ PySem.sub_list_self ?_)
  rw [if_neg (by decide)]
  unfold Builtin.Re.reSsize
  refine wpAny_bind (wpAny_bind (asIndex_int ?_))
  rw [if_neg (by decide)]
  refine wpAny_pure ?_
  rw [if_neg (by rw [PySem.sizeLine_eq]; decide)]
  refine wpAny_bind (wpAny_isInstance (T := "dict") ⟨_, hd, rfl⟩ isSubtype_dict_dict ?_)
  rw [if_neg (by decide)]
  refine wpAny_bind (wpAny_isInstance htu PySem.isSubtype_tuple_tuple ?_)
  rw [if_neg (by decide)]
  refine wpAny_bind (wpAny_seqItems hl rfl ?_)
  rw [Option.getD_some, ← Array.forIn_toList]
  refine wpAny_bind (words_ok (α := Unit) (ws := #[]) _ ?_ hns hrange ?_)
  · intro i t ws s Q h0 h1 h
    refine wpAny_bind (wpAny_pure ?_)
    dsimp only
    rw [if_neg (by omega), if_neg (by omega), if_neg (by omega)]
    exact wpAny_pure h
  rw [if_neg (show ¬ ((Value.str pat t1 == Value.none) = true) from Bool.false_ne_true)]
  unfold Builtin.Re.reTextOf
  refine wpAny_bind (wpAny_bind (wpAny_pure ?_))
  refine wpAny_pure ?_
  refine wpAny_bind (wpAny_pure ?_)
  have hwf' : (decide ((0 : Int) < 0) || !Sre.wellFormed (#[] ++ (List.map Int.toNat ns).toArray) (Int.toNat 0)) = false := by
    rw [show (#[] ++ (List.map Int.toNat ns).toArray) = (List.map Int.toNat ns).toArray from by simp]
    show (false || !Sre.wellFormed _ 0) = false
    rw [hwf]; rfl
  rw [if_neg (by rw [hwf']; exact Bool.false_ne_true)]
  unfold notTheModulesDict
  rw [if_neg (by rw [hds]; exact Bool.false_ne_true)]
  refine wpAny_bind (wpAny_pure ?_)
  refine wpAny_bind (wpAny_dictEntries hd rfl (wpAny_bind (wpAny_pure ?_)))
  refine wpAny_bind (wpAny_mkInt ?_)
  refine wpAny_bind (wpAny_newTuple ?_ (by simp; rw [PySem.sizeLine_eq]; omega))
  refine wpAny_bind (wpAny_newObj_type ?_ (by show (List.toArray _).size ≤ _; simp [PySem.sizeLine_eq]))
  refine wpAny_pure ⟨_, rfl, ?_⟩
  have e1 : (#[] ++ (List.map Int.toNat ns).toArray).toList = List.map Int.toNat ns := by simp
  have g : Grown s.heap (s.heap.push { cls := .type "tuple", data := .seq ((List.map (fun w : Nat => rawInt w) (#[] ++ (List.map Int.toNat ns).toArray).toList)).toArray }) := fun b o e => Heap.get?_push_of_some _ e
  refine hQ _ s.heap.objs.size _ ⟨fun b o e => Heap.get?_push_of_some _ (g b o e), rfl, rfl, rfl⟩ (newAt_size g) (newAt_size fun _ _ e => e) ?_ ⟨_, Heap.get?_push_size _ rfl⟩
  refine Heap.get?_push_of_some _ ?_
  rw [e1]
  exact Heap.get?_push_size _ rfl
end
end Mine
end
section
open PySem PySem.W PyProof.Rows
set_option Elab.async false
set_option maxRecDepth 10000
namespace Mine
open PySem.Sre (M)
open PySem.Builtin.Re
section
variable {prog : Program} {w : World} {A : Around} {E : Value → Shared → Prop} {s : Shared}
theorem drive_ok {m' : M} (hm : m'.outcome.isSome = true) {Q : M → Shared → Prop} (hQ : Q m' s) : ∀ (turns n : Nat) (m : M), n < turns → Steps m m' n → wpAny (model prog w) A (reDrive turns m) Q E s
  | 0, n, m, h, _ => by omega
  | t + 1, n, m, h, hs => by
    show wpAny _ _ (if (m.runFor reTurnSteps).outcome.isSome = true then _ else _) _ _ _
    by_cases h4 : n ≤ 4
    · have e : m.runFor reTurnSteps = m' := by
        have := hs (4 - n)
        rw [Nat.add_sub_cancel' h4, runFor_some hm] at this
        exact this
      rw [e, if_pos hm]
      exact wpAny_pure hQ
    · have hn : n = 4 + (n - 4) := by omega
      have hs' : Steps (m.runFor 4) m' (n - 4) := fun k => by
        rw [← runFor_add, ← hs k]
        congr 1
        omega
      show wpAny _ _ (if (m.runFor 4).outcome.isSome = true then _ else _) _ _ _
      by_cases ho : (m.runFor 4).outcome.isSome = true
      · rw [if_pos ho]
        have e : m.runFor 4 = m' := by
          have := hs' 0
          rw [runFor_some ho] at this
          exact this.trans rfl
        exact wpAny_pure (by show Q (m.runFor 4) s; rw [e]; exact hQ)
      · rw [if_neg ho]
        exact wpAny_bind (wpAny_rule (drive_ok hm hQ t (n - 4) _ (by omega) hs'))
theorem toEnd_ok {m m' : M} {n : Nat} (hs : Steps m m' n) (hn : n < 2 ^ 64) {Q : Option M → Shared → Prop} (hQ : match m'.outcome with | some .matched => Q (some m') s | some .failed => Q none s | _ => False) : wpAny (model prog w) A (reRunToEnd m) Q E s := by
  unfold reRunToEnd
  refine wpAny_bind (drive_ok (m' := m') ?_ ?_ (2 ^ 64) n m hn hs)
  · cases h : m'.outcome with
    | none => rw [h] at hQ; exact hQ.elim
    | some o => rfl
  · refine wpAny_bind (wpAny_forIn_list _ (fun _ _ s' => s' = s) _ ?_ ?_ _ _ rfl)
    · rintro x rest b s' rfl
      split
      · exact wpAny_bind (wpAny_rule (wpAny_pure rfl))
      · exact wpAny_pure rfl
    · rintro b s' rfl
      cases h : m'.outcome with
      | none => rw [h] at hQ; exact hQ.elim
      | some o =>
        rw [h] at hQ
        cases o with
        | matched => exact wpAny_pure hQ
        | failed => exact wpAny_pure hQ
        | stuck why => exact hQ.elim
theorem nextEol_spec {T : Array Nat} : ∀ (f s r : Nat), nextEol T f s = some r → s ≤ r ∧ r < T.size ∧ (T.getD r 0 = 10 ∨ T.getD r 0 = 13) ∧ ∀ j, s ≤ j → j < r → T.getD j 0 ≠ 10 ∧ T.getD j 0 ≠ 13
  | 0, s, r, h => by cases h
  | f + 1, s, r, h => by
    unfold nextEol at h
    split at h
    · cases h
    · split at h
      · rename_i h1 h2
        cases h
        simp only [Bool.or_eq_true, beq_iff_eq] at h2
        exact ⟨Nat.le_refl _, by omega, h2, fun j a b => by omega⟩
      · rename_i h1 h2
        simp only [Bool.or_eq_true, beq_iff_eq, not_or] at h2
        obtain ⟨a, b, c, d⟩ := nextEol_spec f (s + 1) r h
        refine ⟨by omega, b, c, fun j h3 h4 => ?_⟩
        by_cases q : j = s
        · subst q; exact h2
        · exact d j (by omega) h4
theorem nextEol_none {T : Array Nat} : ∀ (f s : Nat), nextEol T f s = none → T.size ≤ s + f → ∀ j, s ≤ j → j < T.size → T.getD j 0 ≠ 10 ∧ T.getD j 0 ≠ 13
  | 0, s, _, hl, j, a, b => by omega
  | f + 1, s, h, hl, j, a, b => by
    unfold nextEol at h
    split at h
    · omega
    · split at h
      · cases h
      · rename_i h1 h2
        simp only [Bool.or_eq_true, beq_iff_eq, not_or] at h2
        by_cases q : j = s
        · subst q; exact h2
        · exact nextEol_none f (s + 1) h (by omega) j (by omega) b
theorem found_ok {T : Array Nat} {start : Nat} {Q : Option M → Shared → Prop}
    (h1 : ∀ r m, nextEol T (T.size + 1 - start) start = some r → m.start = r → m.handed = reEnd T r → Q (some m) s) (h2 : nextEol T (T.size + 1 - start) start = none → Q none s) :
    wpAny (model prog w) A (reRunToEnd (Sre.forSearch reCode T 0 start T.size false)) Q E s := by
  have key := search_ok (T := T) (start := start)
  cases hn : nextEol T (T.size + 1 - start) start with
  | none =>
    rw [hn] at key
    obtain ⟨m, e, ho, ha, hf⟩ := key
    rw [e]
    have hst : m.step = { m with outcome := some .failed } := by
      unfold M.step
      rw [ho, ha, hf]
      rfl
    exact toEnd_ok (Steps.one ho hst) (by decide) (h2 hn)
  | some r =>
    rw [hn] at key
    obtain ⟨seen, e⟩ := key
    obtain ⟨_, hr, hc, _⟩ := nextEol_spec _ _ _ hn
    obtain ⟨n, pc, p, o, seen', hle, hs⟩ := match_ok (h := r) (seen := seen) hr hc
    rw [e]
    exact toEnd_ok hs (Nat.lt_of_le_of_lt hle (by decide)) (h1 r _ hn rfl rfl)
end
noncomputable def eols : List Nat → List Nat
  | [] => []
  | 13 :: 10 :: r => 13 :: 10 :: eols r
  | 13 :: r => 13 :: 10 :: eols r
  | 10 :: r => 13 :: 10 :: eols r
  | c :: r => c :: eols r
theorem eols_plain : ∀ (a : List Nat) {r : List Nat}, (∀ c ∈ a, c ≠ 10 ∧ c ≠ 13) → eols (a ++ r) = a ++ eols r
  | [], _, _ => rfl
  | c :: a, r, h => by
    have hc := h c List.mem_cons_self
    rw [List.cons_append]
    have : eols (c :: (a ++ r)) = c :: eols (a ++ r) := by
      rw [eols]
      · intro r' e; exact (hc.2 e).elim
      · intro e; exact hc.2 e
      · intro e; exact hc.1 e
    rw [this, eols_plain a fun d hd => h d (List.mem_cons_of_mem _ hd)]
    rfl
theorem eols_length : ∀ (a : List Nat), (eols a).length ≤ 2 * a.length := by
  intro a
  fun_induction eols a <;> simp <;> omega
end Mine
end
section
open PySem PySem.W PyProof.Rows
set_option Elab.async false
set_option maxRecDepth 10000
namespace Mine
open PySem.Sre (M)
open PySem.Builtin.Re
theorem getD_toList {T : Array Nat} {j : Nat} (h : j < T.size) : T.toList[j]? = some (T.getD j 0) := by
  rw [Array.getElem?_toList, Array.getElem?_eq_getElem h]
  simp [Array.getD, h]
theorem drop_cons {T : Array Nat} {r : Nat} (h : r < T.size) : T.toList.drop r = T.getD r 0 :: T.toList.drop (r + 1) := by
  have hl : r < T.toList.length := by simpa using h
  rw [List.drop_eq_getElem_cons hl]
  congr 1
  have := getD_toList h
  rw [List.getElem?_eq_getElem hl] at this
  injection this
theorem eols_10 (r : List Nat) : eols (10 :: r) = 13 :: 10 :: eols r := by
  rw [eols]
theorem eols_1310 (r : List Nat) : eols (13 :: 10 :: r) = 13 :: 10 :: eols r := by
  rw [eols]
theorem eols_13 {r : List Nat} (h : ∀ r', r ≠ 10 :: r') : eols (13 :: r) = 13 :: 10 :: eols r := by
  rw [eols]
  intro r' e
  exact h r' e
theorem eols_at {T : Array Nat} {f start r : Nat} (h : nextEol T f start = some r) : eols (T.toList.drop start) = (T.toList.drop start).take (r - start) ++ ([13, 10] ++ eols (T.toList.drop (reEnd T r))) := by
  obtain ⟨h1, h2, h3, h4⟩ := nextEol_spec _ _ _ h
  have e : T.toList.drop start = (T.toList.drop start).take (r - start) ++ T.toList.drop r := by
    conv => lhs; rw [← List.take_append_drop (r - start) (T.toList.drop start)]
    rw [List.drop_drop, show start + (r - start) = r by omega]
  conv => lhs; rw [e]
  rw [eols_plain]
  · congr 1
    by_cases hr : r + 1 < T.size ∧ T.getD r 0 = 13 ∧ T.getD (r + 1) 0 = 10
    · have he : reEnd T r = r + 2 := by unfold reEnd; rw [if_pos hr]
      rw [he, drop_cons h2, drop_cons hr.1, hr.2.1, hr.2.2, eols_1310]
      rfl
    · have he : reEnd T r = r + 1 := by unfold reEnd; rw [if_neg hr]
      rw [he, drop_cons h2]
      rcases h3 with q | q
      · rw [q, eols_10]; rfl
      · rw [q, eols_13]
        · rfl
        · intro r' e'
          by_cases hl : r + 1 < T.size
          · rw [drop_cons hl] at e'
            injection e' with e1 _
            exact hr ⟨hl, q, e1⟩
          · rw [List.drop_eq_nil_of_le (by simpa using hl)] at e'
            cases e'
  · intro c hc
    obtain ⟨i, hi, e⟩ := List.getElem_of_mem hc
    rw [List.length_take] at hi
    have hlt : start + i < T.size := by omega
    have : T.toList[start + i]? = some c := by
      have h5 : ((T.toList.drop start).take (r - start))[i]? = some c := by rw [← e]; exact List.getElem?_eq_getElem _
      rw [List.getElem?_take, if_pos (by omega), List.getElem?_drop] at h5
      exact h5
    rw [getD_toList hlt] at this
    injection this with this
    rw [← this]
    exact h4 (start + i) (by omega) (by omega)
theorem eols_rest {T : Array Nat} {start : Nat} (h : nextEol T (T.size + 1 - start) start = none) : eols (T.toList.drop start) = T.toList.drop start := by
  have := eols_plain (T.toList.drop start) (r := []) fun c hc => by
    obtain ⟨i, hi, e⟩ := List.getElem_of_mem hc
    have hlt : start + i < T.size := by simpa [Nat.lt_sub_iff_add_lt, Nat.add_comm] using hi
    have h5 : T.toList[start + i]? = some c := by rw [← List.getElem?_drop, ← e]; exact List.getElem?_eq_getElem _
    rw [getD_toList hlt] at h5
    injection h5 with h5
    rw [← h5]
    exact nextEol_none _ _ h (by omega) _ (by omega) hlt
  rw [List.append_nil] at this
  rw [this, show eols [] = [] from by rw [eols], List.append_nil]
end Mine
end
section
open PySem PySem.W PyProof.Rows
set_option Elab.async false
set_option maxRecDepth 100000
namespace Mine
open PySem.Sre (M)
open PySem.Builtin.Re
namespace FS
theorem entry_sub_loop : entryFor table "re.Pattern.sub.loop" = some Builtin.«re.Pattern.sub.loop» := entryFor_of_tree (by kernel_rfl)
theorem plain_sub_loop : plainId "re.Pattern.sub.loop" = true := by decide +kernel
end FS
structure PatAt (h : Heap) (P tu : Addr) : Prop where
  pat : ∃ v w, h.get? P = some { cls := .type "re.Pattern", data := .fields #[v, w, rawInt 0, .none, .none, .ref tu, rawInt 0] }
  code : h.get? tu = some { cls := .type "tuple", data := .seq (reCode.toList.map fun w : Nat => rawInt w).toArray }
theorem code_back : (((reCode.toList.map fun w : Nat => rawInt w).toArray.map reRawOf).map (·.toNat)) = reCode := by decide +kernel
section
variable {prog : Program} {w : World} {A : Around} {E : Value → Shared → Prop} {s : Shared}
theorem target_ok {P tu : Addr} {x : Str} {t : Tok} {Q : ReTarget → Shared → Prop} (hp : PatAt s.heap P tu)
    (hQ : Q { pattern := .ref P, string := .str x t, code := reCode, text := x.cps, kind := 0, groups := 0, pos := 0, lim := x.cps.size } s) : wpAny (model prog w) A (reWholeTarget (.ref P) (.str x t)) Q E s := by
  obtain ⟨v, u, hP⟩ := hp.pat
  unfold reWholeTarget
  refine wpAny_bind (wpAny_fieldsOf hP rfl ?_)
  unfold reTextOf
  refine wpAny_bind (wpAny_bind (wpAny_pure (wpAny_pure ?_)))
  dsimp only
  have e6 : reRawNat (#[v, u, rawInt 0, Value.none, Value.none, Value.ref tu, rawInt 0].getD 6 Value.none) = 0 := rfl
  rw [e6, if_neg (by decide), if_neg (by decide)]
  unfold reNoCollectionInside
  rw [if_neg (by decide)]
  refine wpAny_bind (wpAny_pure ?_)
  unfold reRawItems
  refine wpAny_bind (wpAny_bind (wpAny_seqItems hp.code rfl (wpAny_pure ?_)))
  refine wpAny_pure ?_
  rw [Option.getD_some, code_back]
  exact hQ
theorem rslice_ok {x : Array Nat} {a b : Nat} {Q : Value → Shared → Prop} (hx : x.size ≤ 10000) (hQ : ∀ t, Q (.str ⟨x.extract a b⟩ t) { s with toks := s.toks + 1 }) : wpAny (model prog w) A (reSlice x 0 a b) Q E s := by
  show wpAny _ _ (mkStr ⟨x.extract a b⟩) _ _ _
  refine wpAny_mkStr (hQ _) ?_
  show (x.extract a b).size ≤ sizeLine
  rw [PySem.sizeLine_eq, Array.size_extract]
  omega
theorem push_ok {L : Addr} {ps : List (Str × Tok)} {n : Nat} {x : Str} {t : Tok} {Q : Unit → Shared → Prop} (hL : s.heap.get? L = some { cls := .type "list", data := .seq (strValues ps).toArray n }) (hlen : ps.length ≤ 100000)
    (hQ : ∀ h' n', Heap.SameBut L s.heap h' → h'.get? L = some { cls := .type "list", data := .seq (strValues (ps ++ [(x, t)])).toArray n' } → Q () { s with heap := h' }) :
    wpAny (model prog w) A (updateSeq L (·.push (.str x t))) Q E s := by
  have hl : (strValues ps).toArray.size ≤ 100000 := by simpa [strValues] using hlen
  refine wpAny_updateSeq hL rfl ?_ (by rw [PySem.sizeLine_eq]; omega) (by rw [Array.size_push, PySem.sizeLine_eq]; omega)
  refine hQ _ (if ((strValues ps).toArray.push (.str x t)).size == (strValues ps).toArray.size then n else n + 1) (Heap.SameBut.update ..) ?_
  rw [Heap.get?_update_self _ hL rfl]
  simp [Obj.mapSeq, strValues]
theorem notNone_str (x : Str) (t : Tok) : (Value.str x t != Value.none) = true := rfl
theorem reEnd_bounds {T : Array Nat} {r : Nat} (h : r < T.size) : r < reEnd T r ∧ reEnd T r ≤ T.size ∧ reEnd T r ≤ r + 2 := by
  unfold reEnd
  by_cases q : r + 1 < T.size ∧ T.getD r 0 = 13 ∧ T.getD (r + 1) 0 = 10
  · rw [if_pos q]; omega
  · rw [if_neg q]; omega
theorem subloop_ok {P tu L : Addr} {x : Str} {tx tc : Tok} {total : List Nat} (hx : x.cps.size ≤ 10000) (hPL : P ≠ L) (htL : tu ≠ L) {R : Result → Shared → Prop} :
    ∀ (k start : Nat) (cnt : Int) (tn : Tok) (ps : List (Str × Tok)) (n : Nat) (s : Shared), x.cps.size - start < k → start ≤ x.cps.size → PatAt s.heap P tu →
      s.heap.get? L = some { cls := .type "list", data := .seq (strValues ps).toArray n } → ps.length ≤ 2 * start + 1 → (ps.map (·.1.cps.toList)).flatten ++ eols (x.cps.toList.drop start) = total → total.length ≤ 20000 →
      (∀ h' tk t, (∀ b o, b ≠ L → s.heap.get? b = some o → h'.get? b = some o) → R (.ok (.ret (.str (toStr total) t))) { s with heap := h', toks := tk }) →
      codeAny (model prog w) A (.builtin "re.Pattern.sub.loop" ⟨[.ref P, .str x tx, .str (toStr [13, 10]) tc, rawInt 0, rawInt 0, .int cnt tn, rawInt start, rawInt start, .bool false, .ref L, .bool false], []⟩) R s := by
  intro k
  induction k with
  | zero => intro start cnt tn ps n s hk; omega
  | succ k ih =>
    intro start cnt tn ps n s hk hst hp hL hlen htot htl hR
    refine codeAny_builtin FS.entry_sub_loop ?_
    rw [Around.under_plainId FS.plain_sub_loop _]
    unfold Builtin.«re.Pattern.sub.loop»
    refine wpAny_bind (target_ok hp ?_)
    unfold reLiteralCannotBeTurned
    refine wpAny_bind (wpAny_bind (wpAny_pure (wpAny_pure ?_)))
    refine wpAny_bind (found_ok (T := x.cps) (start := start) (fun r m hn hs he => ?_) fun hn => ?_)
    · obtain ⟨n1, n2, n3, n4⟩ := nextEol_spec _ _ _ hn
      have hev := eols_at hn
      have hre := reEnd_bounds n2
      have hne : (reEnd x.cps r == r) = false := beq_eq_false_iff_ne.mpr (by omega)
      dsimp only
      rw [hs, he, hne, Int.toNat_natCast]
      have step : ∀ (h₁ : Heap) (tk n₁ : Nat) (ps₁ : List (Str × Tok)), (∀ b o, b ≠ L → s.heap.get? b = some o → h₁.get? b = some o) → h₁.get? L = some { cls := .type "list", data := .seq (strValues ps₁).toArray n₁ } → ps₁.length ≤ 2 * start + 2 →
          (ps₁.map (·.1.cps.toList)).flatten = (ps.map (·.1.cps.toList)).flatten ++ (x.cps.toList.drop start).take (r - start) →
          wpAny (model prog w) A.in1 (updateSeq L fun x => x.push (Value.str (toStr [13, 10]) tc)) (fun _ s' => codeAny (model prog w) A (.builtin "re.Pattern.sub.loop" ⟨[.ref P, .str x tx, .str (toStr [13, 10]) tc, rawInt 0, rawInt 0, rawInt (cnt + 1), rawInt (reEnd x.cps r), rawInt (reEnd x.cps r), .bool false, .ref L, .bool false], []⟩) R s') (fun e s' => R (.error e) s') { s with heap := h₁, toks := tk } := by
        intro h₁ tk n₁ ps₁ hk₁ hL₁ hl₁ hf₁
        refine push_ok (s := { s with heap := h₁, toks := tk }) hL₁ (by omega) fun h₂ n₂ hsb hL₂ => ?_
        have hk₂ : ∀ b o, b ≠ L → s.heap.get? b = some o → h₂.get? b = some o := fun b o hb e => (hsb.2 b hb).trans (hk₁ b o hb e)
        refine ih (reEnd x.cps r) (cnt + 1) _ (ps₁ ++ [(toStr [13, 10], tc)]) n₂ { s with heap := h₂, toks := tk } (by omega) hre.2.1 ⟨?_, hk₂ _ _ htL hp.code⟩ hL₂ (by rw [List.length_append, List.length_singleton]; omega) ?_ htl fun h' tk' t' hk' => ?_
        · obtain ⟨v, u, e⟩ := hp.pat
          exact ⟨v, u, hk₂ _ _ hPL e⟩
        · rw [← htot, hev, List.map_append, List.flatten_append, hf₁]
          simp [toStr]
        · exact hR h' tk' t' fun b o hb e => hk' b o hb (hk₂ b o hb e)
      by_cases hlt : start < r
      · rw [if_pos hlt]
        refine wpAny_bind (rslice_ok hx fun t1 => wpAny_bind (push_ok (s := { s with toks := s.toks + 1 }) hL (by omega) fun h' n' hsb hL' => ?_))
        rw [if_pos (by rfl)]
        refine wpAny_bind (wpAny_pure ?_)
        rw [if_pos (notNone_str _ _)]
        refine wpAny_bind (wpAny_mono (step h' (s.toks + 1) n' _ (fun b o hb e => (hsb.2 b hb).trans e) hL' (by rw [List.length_append, List.length_singleton]; omega) ?_) (fun _ s' h => wpAny_pure ⟨plainId_quiet FS.plain_sub_loop _, h⟩) fun _ _ h => h)
        rw [List.map_append, List.flatten_append]
        simp
      · have e : start = r := by omega
        rw [if_neg hlt, if_pos (by rfl)]
        refine wpAny_bind (wpAny_pure ?_)
        rw [if_pos (notNone_str _ _)]
        refine wpAny_bind (wpAny_mono (step s.heap s.toks n ps (fun _ _ _ e => e) hL (by omega) ?_) (fun _ s' h => wpAny_pure ⟨plainId_quiet FS.plain_sub_loop _, h⟩) fun _ _ h => h)
        rw [e, Nat.sub_self]
        simp
    · have hev := eols_rest hn
      dsimp only
      have step : ∀ (h₁ : Heap) (tk n₁ : Nat) (ps₁ : List (Str × Tok)) (Q : Value → Shared → Prop), (∀ b o, b ≠ L → s.heap.get? b = some o → h₁.get? b = some o) → h₁.get? L = some { cls := .type "list", data := .seq (strValues ps₁).toArray n₁ } → ps₁.length ≤ 2 * x.cps.size + 2 →
          (ps₁.map (·.1.cps.toList)).flatten = total → (∀ h' tk t, (∀ b o, b ≠ L → s.heap.get? b = some o → h'.get? b = some o) → Q (.str (toStr total) t) { s with heap := h', toks := tk }) →
          ∀ t0, wpAny (model prog w) A.in1 (call (.builtin "str.join") [.str (toStr []) t0, .ref L]) Q (fun e s' => R (.error e) s') { s with heap := h₁, toks := tk } := by
        intro h₁ tk n₁ ps₁ Q hk₁ hL₁ hl₁ hf₁ hQ t0
        refine SC.join (s := { s with heap := h₁, toks := tk }) ⟨_, hL₁, rfl, n₁, rfl⟩ rfl ?_ ?_
        · refine PyProof.Rows.joinOk_of_weight ?_ (by simp [toStr, Str.length])
          have e1 : ((ps₁.map (·.1)).map (·.length)).sum = total.length := by
            rw [← hf₁, List.length_flatten, List.map_map, List.map_map]
            exact congrArg List.sum (List.map_congr_left fun p _ => by simp [Str.length])
          rw [e1, List.length_map]
          omega
        · intro t' k'
          have e : Txt.join (toStr []) (ps₁.map (·.1)) = toStr total := by
            unfold Txt.join
            rw [StrLaws.glued_eq_join, ← hf₁]
            have e2 : ps₁.map (·.1) = (ps₁.map (·.1.cps.toList)).map toStr := by
              rw [List.map_map]
              exact List.map_congr_left fun p _ => by simp [toStr]
            rw [e2]
            exact join_flat _
          rw [e]
          exact hQ h₁ k' t' hk₁
      rw [Int.toNat_natCast]
      by_cases hlt : start < x.cps.size
      · rw [if_pos hlt]
        refine wpAny_bind (rslice_ok hx fun t1 => wpAny_bind (push_ok (s := { s with toks := s.toks + 1 }) hL (by omega) fun h' n' hsb hL' => ?_))
        refine wpAny_bind (rslice_ok (s := { s with heap := h', toks := s.toks + 1 }) hx fun t2 => ?_)
        refine wpAny_bind (wpAny_seqItems hL' rfl ?_)
        rw [Option.getD_some, if_neg (by simp [strValues])]
        rw [show (⟨x.cps.extract 0 0⟩ : Str) = toStr [] from by simp [toStr]]
        refine wpAny_bind (step h' (s.toks + 1 + 1) n' _ _ (fun b o hb e => (hsb.2 b hb).trans e) hL' (by rw [List.length_append, List.length_singleton]; omega) ?_ (fun h'' tk t hk => ?_) _)
        · rw [← htot, hev, List.map_append, List.flatten_append]
          simp
          exact List.take_of_length_le (by simp)
        · rw [if_neg Bool.false_ne_true]
          exact wpAny_pure (hR h'' tk t hk)
      · rw [if_neg hlt]
        refine wpAny_bind (rslice_ok hx fun t2 => ?_)
        refine wpAny_bind (wpAny_seqItems (s := { s with toks := s.toks + 1 }) hL rfl ?_)
        have hnil : x.cps.toList.drop start = [] := List.drop_eq_nil_of_le (by simpa using hlt)
        rw [hnil, show eols [] = [] from by rw [eols], List.append_nil] at htot
        rw [show (⟨x.cps.extract 0 0⟩ : Str) = toStr [] from by simp [toStr]]
        rw [Option.getD_some]
        by_cases hps : ps = []
        · subst hps
          rw [if_pos (by rfl)]
          refine wpAny_bind (wpAny_pure ?_)
          rw [if_neg Bool.false_ne_true]
          rw [show toStr [] = toStr total from by rw [← htot]; rfl]
          exact wpAny_pure (hR s.heap _ _ fun _ _ _ e => e)
        · rw [if_neg (by simpa [strValues] using hps)]
          refine wpAny_bind (step s.heap (s.toks + 1) n ps _ (fun _ _ _ e => e) hL (by omega) htot (fun h'' tk t hk => ?_) _)
          rw [if_neg Bool.false_ne_true]
          exact wpAny_pure (hR h'' tk t hk)
end
end Mine
end
section
open PySem PySem.W PyProof.Rows
set_option Elab.async false
set_option maxRecDepth 100000
namespace Mine
open PySem.Builtin.Re
namespace FS
theorem slot_sub : Slot "re.Pattern" "sub" "re.Pattern.sub" :=
  .of (owner := "re.Pattern") (n := "sub") (by rw [typeLookup_type, builtinLookup_eq_fast]; kernel_rfl) (by decide +kernel) (by decide +kernel) (by decide +kernel)
    (by first | exact .inl (by decide +kernel) | exact .inr (by decide +kernel)) (by rw [isSubtype_type]; kernel_rfl)
theorem type_sub : typeOf (.builtin "re.Pattern.sub") = pure (.type "method_descriptor") := by show builtinType _ = _; rw [builtinType_eq_fast]; kernel_rfl
theorem entry_sub : entryFor table "re.Pattern.sub" = some Builtin.«re.Pattern.sub» := entryFor_of_tree (by kernel_rfl)
theorem args_sub (a b c : Value) : argsOk "re.Pattern.sub" ⟨[a, b, c], []⟩ := by unfold argsOk; kernel_rfl
theorem plainAttrs_pat : PlainAttrs "re.Pattern" :=
  ⟨⟨"object.__getattribute__", by rw [typeLookup_type, builtinLookup_eq_fast]; kernel_rfl, by decide +kernel⟩, by rw [typeLookup_type, builtinLookup_eq_fast]; kernel_rfl⟩
theorem lk_str_call : typeLookup (.type "str") "__call__" = pure none := by rw [typeLookup_type, builtinLookup_eq_fast]; kernel_rfl
theorem named_sub (a b : Value) : reNamed "re.Pattern.sub" "sub" ["repl", "string", "count"] 2 [a, b] [] = pure [some a, some b, none] := by kernel_rfl
end FS
noncomputable def fixE : List D → Option D
  | [.str x] => if x.length ≤ 10000 then some (.str (eols x)) else none
  | _ => none
section
variable {prog : Program} {w : World} {A : Around} {E : Value → Shared → Prop} {s : Shared}
theorem PatAt.keeps {h h' : Heap} {P tu : Addr} (p : PatAt h P tu) (g : Grown h h') : PatAt h' P tu := by
  obtain ⟨v, u, e⟩ := p.pat
  exact ⟨⟨v, u, g _ _ e⟩, g _ _ p.code⟩
theorem sub_ok {P tu : Addr} {x : Str} {tx tc : Tok} {Q : Value → Shared → Prop} (hp : PatAt s.heap P tu) (hx : x.cps.size ≤ 10000)
    (hQ : ∀ h' tk t, Grown s.heap h' → Q (.str (toStr (eols x.cps.toList)) t) { s with heap := h', toks := tk }) :
    wpAny (model prog w) A (call (.builtin "re.Pattern.sub") [.ref P, .str (toStr [13, 10]) tc, .str x tx]) Q E s := by
  obtain ⟨v, u, hP⟩ := hp.pat
  refine wpAny_call (codeAny_call_builtin FS.slot_sub.plain FS.entry_sub (FS.slot_sub.check _ _ _ _ _ _ _ _ ⟨_, hP, rfl⟩ (FS.args_sub _ _ _) ?_))
  unfold Builtin.«re.Pattern.sub» reSubstitute
  refine wpAny_bind (wpAny_of_eq (FS.named_sub _ _) ?_)
  dsimp only
  refine wpAny_bind (wpAny_pure ?_)
  refine wpAny_bind (wpAny_specialOf (typeIs_str _ _ _) FS.lk_str_call ?_)
  rw [if_neg (by decide)]
  refine wpAny_bind (wpAny_pure ?_)
  refine wpAny_bind (wpAny_pure ?_)
  rw [if_neg (by decide)]
  rw [if_pos (by decide +kernel)]
  refine wpAny_bind (wpAny_pure ?_)
  refine wpAny_bind (wpAny_holding (target_ok hp ?_))
  rw [if_neg (show ¬ (((0 : Int) == 1) = true) by decide)]
  refine wpAny_bind (wpAny_newList ?_ (by simp))
  refine wpAny_pure ⟨plainId_quiet FS.plain_sub_loop _, ?_⟩
  have g : Grown s.heap (s.heap.push { cls := .type "list", data := .seq ([] : List Value).toArray }) := fun b o e => Heap.get?_push_of_some _ e
  have ne : ∀ {a : Addr} {o : Obj}, s.heap.get? a = some o → a ≠ s.heap.objs.size := fun e q => by rw [q, get_size_none] at e; cases e
  refine subloop_ok hx (ne hP) (ne hp.code) (x.cps.size + 1) 0 0 _ [] 0 _ (by omega) (Nat.zero_le _) (hp.keeps g) (Heap.get?_push_size _ rfl) (by simp) rfl ?_ fun h' tk t hk => ?_
  · have := eols_length (x.cps.toList)
    simp only [List.map_nil, List.flatten_nil, List.nil_append, List.drop_zero]
    have e : x.cps.toList.length = x.cps.size := by simp
    omega
  · exact hQ h' tk t fun b o e => hk b o (ne e) (g b o e)
end
section
variable {prog : Program} {w : World} {mg mb : Str → Option Value} {fns : List (Str × Addr × Obj)}
noncomputable abbrev scFix : List (Str × NameKind) := [(Str.ofString "data", .local), (Str.ofString "_twin_re_1", .globalImplicit), (Str.ofString "CRLF", .globalImplicit)]
theorem fixE_ok {nn : Nat} (_W : World0 prog w mg mb fns [] nn) {a : Addr} {fd : FuncData} {q1 q2 q3 q4 q5 q6 : Pos} (hl : (q2.endLine == q5.line) = true)
    (FI : FunIs fns a [Str.ofString "data"] scFix [.Return (some (.Call (.Attribute (.Name (Str.ofString "_twin_re_1") q1) (Str.ofString "sub") q2) [.Name (Str.ofString "CRLF") q3, .Name (Str.ofString "data") q4] [] q5)) q6] fd)
    {P tu : Addr} {tc : Tok} (hm : mg "_twin_re_1" = some (.ref P)) (hc : mg "CRLF" = some (.str (toStr [13, 10]) tc)) (hp : ∀ h : Heap, GOk mg mb fns h → PatAt h P tu) :
    FunOk prog w mg mb fns (nn + 1) (.ref a) fixE := by
  refine enter_ok FI (by decide +kernel) fun {ds d} hd => ?_
  unfold fixE at hd
  split at hd
  · rename_i x
    split at hd
    · rename_i hx
      cases hd
      refine ⟨rfl, [(Str.ofString "data", false, .str x)], fun {A env base X M s Q E} R S gb g h => ?_⟩
      have hP := hp s.heap g
      refine wpAny_execs_cons (wpAny_Return_some ?_)
      refine meth_call rfl hl rfl rfl (by simp) FS.slot_sub FS.plainAttrs_pat FS.type_sub ?_
      refine glob_ok (v := .ref P) S rfl (Calls.loadGlobal_global (S.globals ▸ g.g) hm ?_)
      obtain ⟨v, u, eP⟩ := hP.pat
      refine ⟨⟨_, eP, rfl⟩, fun b e => by cases e; exact ⟨_, eP, rfl⟩, ?_⟩
      refine wpAny_items_cons (glob_ok (v := .str (toStr [13, 10]) tc) S rfl (Calls.loadGlobal_global (S.globals ▸ g.g) hc ?_)) rfl
      refine wpAny_items_cons (name_ok S rfl fun v _ wk _ => ?_) rfl
      obtain ⟨tx, rfl⟩ := wk.str
      refine wpAny_items_nil (Grow.toksOf (sub_ok hP (by simpa [toStr] using hx) fun h' tk t g' ht => ?_))
      have g₂ : Grow s { s with heap := h', toks := tk } := ⟨g', rfl, rfl, rfl⟩
      have e : (toStr x).cps.toList = x := by simp [toStr]
      rw [e]
      exact h X M _ (S.grow g₂ ht) (.ofGrow g₂ ht) _ (.inl .str)
    · cases hd
  · cases hd
end
end Mine
end
section
open PySem PySem.W PyProof.Rows
set_option Elab.async false
set_option maxRecDepth 10000
namespace Mine
noncomputable def b1Nums : List Nat := [173, 847, 6150, 6155, 6156, 6157, 8203, 8204, 8205, 8288, 65279] ++ (List.range 16).map (· + 65024)
noncomputable def inB1 : List D → Option D
  | [.str [c]] => some (.bool (b1Nums.contains c))
  | _ => none
section
variable {prog : Program} {w : World} {mg mb : Str → Option Value} {fns : List (Str × Addr × Obj)}
noncomputable abbrev scB1 : List (Str × NameKind) := [(Str.ofString "code", .local), (Str.ofString "ord", .globalImplicit), (Str.ofString "b1_set", .globalImplicit)]
theorem inB1_ok {nn : Nat} (W : World0 prog w mg mb fns [] nn) {a : Addr} {fd : FuncData} {p1 p2 p3 p4 p5 p6 : Pos}
    (F : FunIs fns a [Str.ofString "code"] scB1 [.Return (some (.Compare (.Call (.Name (Str.ofString "ord") p1) [.Name (Str.ofString "code") p2] [] p3) [.In] [.Name (Str.ofString "b1_set") p4] p5)) p6] fd)
    {ad : Addr} {o : Obj} {y : Str} {S : Int → Bool} {n : Nat} (hm : mg "b1_set" = some (.ref ad)) (hf : (y, ad, o) ∈ fns) (hs : ∀ h : Heap, h.get? ad = some o → h.SetOf (intKind prog w) ad S n) (hS : ∀ c : Nat, S c = b1Nums.contains c) :
    FunOk prog w mg mb fns (nn + 1) (.ref a) inB1 := by
  refine enter_ok F (by decide +kernel) fun {ds d} hd => ?_
  unfold inB1 at hd
  split at hd
  · rename_i c
    cases hd
    refine ⟨rfl, [(Str.ofString "code", false, .str [c])], fun {A env base X M s Q E} R S gb g h => ?_⟩
    refine wpAny_execs_cons (wpAny_Return_some (wpAny_Compare1 ?_ rfl))
    have hev : pe [] fu scB1 (.Call (.Name (Str.ofString "ord") p1) [.Name (Str.ofString "code") p2] [] p3) [(Str.ofString "code", false, .str [c])] = some (true, .int c) := by rfl
    refine pe_ok W R fu scB1 hev S g fun v s₁ g₁ t₁ _ r₁ => ?_
    have r₁ := r₁ rfl
    unfold Rep at r₁
    obtain ⟨t, rfl⟩ := r₁
    have S₁ := S.grow g₁ t₁
    have G₁ := g.grow g₁.heap
    refine glob_ok (v := .ref ad) S₁ rfl (Calls.loadGlobal_global (S₁.globals ▸ G₁.g) hm ?_)
    refine wpAny_inSet_of (intKind_is _ _ _ _) rfl (hs s₁.heap (G₁.fn _ hf)) ?_
    rw [hS c]
    have g₂ : Grow s { s₁ with toks := s₁.toks + 1 } := g₁.trans .tok
    exact h X M _ (S.grow g₂ (Nat.le_trans t₁ (Nat.le_succ _))) (.ofGrow g₂ (Nat.le_trans t₁ (Nat.le_succ _))) _ (.inl .bool)
  · cases hd
end
end Mine
end
section
open PySem PySem.W PyProof.Rows
set_option Elab.async false
set_option maxRecDepth 10000
namespace Mine
noncomputable def b3Look (t : List (Int × Str)) (c : Nat) : Option (List Nat) := match t.find? fun p => decide (p.1 = (c : Int)) with
  | some p => some p.2.cps.toList
  | none => if c < 128 then some [lo1 c] else none
noncomputable def map3 (t : List (Int × Str)) : List D → Option D
  | [.str [c]] => (b3Look t c).map .str
  | _ => none
theorem vals_find : ∀ {kvs : List (Int × Value)} {t : List (Int × Str)} (c : Int), Vals kvs t → match t.find? fun p => decide (p.1 = c) with
    | some p => ∃ u, valueAt kvs c = some (.str p.2 u)
    | none => valueAt kvs c = none
  | [], [], c, _ => rfl
  | (k, v) :: r, (k', x) :: r', c, ⟨h1, ⟨u, h2⟩, h3⟩ => by
    subst h1 h2
    have ih := vals_find c h3
    unfold valueAt at ih ⊢
    by_cases e : k = c
    · simp only [List.find?_cons, decide_eq_true e]
      exact ⟨u, rfl⟩
    · simp only [List.find?_cons, decide_eq_false e]
      exact ih
  | [], _ :: _, _, h => h.elim
  | _ :: _, [], _, h => h.elim
section
variable {prog : Program} {w : World} {mg mb : Str → Option Value} {fns : List (Str × Addr × Obj)}
noncomputable abbrev scB3 : List (Str × NameKind) := [(Str.ofString "code", .local), (Str.ofString "r", .local), (Str.ofString "b3_exceptions", .globalImplicit), (Str.ofString "ord", .globalImplicit)]
theorem lower_one (c : Nat) (h : c < 128) : Txt.lower (toStr [c]) = toStr [lo1 c] := by
  rw [lower_ascii (by intro d hd; simp [toStr] at hd; omega)]
  simp [toStr]
theorem map3_ok {nn : Nat} (W : World0 prog w mg mb fns [] nn) {a : Addr} {fd : FuncData} {t : List (Int × Str)} {q1 q2 q3 q4 q5 q6 q7 q8 q9 q10 q11 q12 q13 q14 q15 q16 q17 q18 : Pos} {k : Nat} (hl1 : (q3.endLine == q7.line) = true) (hl2 : (q16.endLine == q17.line) = true)
    (FI : FunIs fns a [Str.ofString "code"] scB3 [.Assign [.Name (Str.ofString "r") q1] (.Call (.Attribute (.Name (Str.ofString "b3_exceptions") q2) (Str.ofString "get") q3) [.Call (.Name (Str.ofString "ord") q4) [.Name (Str.ofString "code") q5] [] q6] [] q7) q8,
      .If (.Compare (.Name (Str.ofString "r") q9) [.IsNot] [.Constant .none k q10] q11) [.Return (some (.Name (Str.ofString "r") q12)) q13] [] q14, .Return (some (.Call (.Attribute (.Name (Str.ofString "code") q15) (Str.ofString "lower") q16) [] [] q17)) q18] fd)
    {ad : Addr} {o : Obj} {y : Str} {kvs : List (Int × Value)} (hm : mg "b3_exceptions" = some (.ref ad)) (hf : (y, ad, o) ∈ fns) (hs : ∀ h : Heap, h.get? ad = some o → h.DictOf (intKind prog w) ad kvs) (hv : Vals kvs t) (hads : (ad == sysModules) = false) :
    FunOk prog w mg mb fns (nn + 1) (.ref a) (map3 t) := by
  refine enter_ok FI (by decide +kernel) fun {ds d} hd => ?_
  unfold map3 at hd
  split at hd
  · rename_i c
    obtain ⟨x, hx, rfl⟩ := Option.map_eq_some_iff.mp hd
    refine ⟨rfl, ?_⟩
    have hev : pe [] fu scB3 (.Call (.Name (Str.ofString "ord") q4) [.Name (Str.ofString "code") q5] [] q6) [(Str.ofString "code", false, .str [c])] = some (true, .int c) := by rfl
    have hfind := vals_find (c : Int) hv
    have hvals : (∃ u, valueAt kvs c = some (.str (toStr x) u)) ∨ (valueAt kvs c = none ∧ c < 128 ∧ x = [lo1 c]) := by
      unfold b3Look at hx
      split at hx
      · rename_i p hp
        cases hx
        rw [hp] at hfind
        obtain ⟨u, hu⟩ := hfind
        exact .inl ⟨u, by rw [hu]; rfl⟩
      · rename_i hp
        rw [hp] at hfind
        split at hx
        · cases hx
          exact .inr ⟨hfind, by assumption, rfl⟩
        · cases hx
    have dv : D := .none
    refine ⟨PEnv.set [(Str.ofString "code", false, .str [c])] (Str.ofString "r") (false, if (valueAt kvs c).isSome then .str x else .none), fun {A env base X M s Q E} R S gb g h => ?_⟩
    refine wpAny_execs_cons (wpAny_Assign_Name ?_ rfl)
    refine meth_call rfl hl1 rfl rfl (by simp) F.slot_dict_get F.plainAttrs_dict F.type_dict_get ?_
    refine glob_ok (v := .ref ad) S rfl (Calls.loadGlobal_global (S.globals ▸ g.g) hm ?_)
    have hD := hs s.heap (g.fn _ hf)
    refine ⟨hD.typeIs, fun b e => ?_, ?_⟩
    · cases e
      obtain ⟨o, _, _, ho, hc, _⟩ := hD
      exact ⟨o, ho, hc.2.1⟩
    refine wpAny_items_cons ?_ rfl
    refine pe_ok W R fu scB3 hev S g fun v s₁ g₁ t₁ _ r₁ => ?_
    have r₁ := r₁ rfl
    unfold Rep at r₁
    obtain ⟨tk, rfl⟩ := r₁
    refine wpAny_items_nil ?_
    have S₁ := S.grow g₁ t₁
    have G₁ := g.grow g₁.heap
    have hD₁ := hs s₁.heap (G₁.fn _ hf)
    refine call_meetsIn F.slot_dict_get hD₁.typeIs F.entry_dict_get (F.args_dict_get_2 _ _) (meets_dict_get (intKind prog w) ad (intKind_is prog w c tk) hads) ⟨_, hD₁.mapOf, ?_⟩
    have g₂ : Grow s₁ { s₁ with toks := s₁.toks + 1 } := .tok
    have S₂ := S₁.grow g₂ (Nat.le_succ _)
    have gg : Grow s { s₁ with toks := s₁.toks + 1 } := g₁.trans g₂
    rcases hvals with ⟨u, hu⟩ | ⟨hn, hc, rfl⟩
    · rw [hu] at h ⊢
      show wpAny _ _ (storeName env _ (.str (toStr x) u)) _ _ _
      refine assign_ok S₂ rfl (d := .str x) .str fun s₃ S₃ st₃ => ?_
      refine wpAny_execs_cons (wpAny_If (wpAny_isTrue_Compare1 ?_ rfl))
      refine name_ok S₃ rfl fun v _ w₃ _ => ?_
      obtain ⟨t₃, rfl⟩ := w₃.str
      refine wpAny_Constant_none (isnot_none_ne (fun q => nomatch q) (wpAny_truthy_bool ?_))
      refine wpAny_execs_cons (wpAny_Return_some (name_ok S₃ rfl fun v _ _ r₃ => ?_))
      exact h X M s₃ S₃ ((Step.ofGrow gg (Nat.le_trans t₁ (Nat.le_succ _))).trans st₃ S.there) v (.inl (r₃ rfl))
    · rw [hn] at h ⊢
      show wpAny _ _ (storeName env _ .none) _ _ _
      refine assign_ok S₂ rfl (d := .none) (by unfold Rep; rfl) fun s₃ S₃ st₃ => ?_
      refine wpAny_execs_cons (wpAny_If (wpAny_isTrue_Compare1 ?_ rfl))
      refine name_ok S₃ rfl fun v _ w₃ _ => ?_
      have e : v = .none := by unfold Weak Rep at w₃; exact w₃
      subst e
      refine wpAny_Constant_none (isnot_none_none (wpAny_truthy_bool ?_))
      refine wpAny_execs_nil ?_
      refine wpAny_execs_cons (wpAny_Return_some ?_)
      refine meth_call rfl hl2 rfl rfl (by simp) F.slot_str_lower F.plainAttrs_str F.type_str_lower ?_
      refine name_ok S₃ rfl fun v _ w₄ _ => ?_
      obtain ⟨t₄, rfl⟩ := w₄.str
      refine ⟨typeIs_str _ _ _, (fun _ e => nomatch e), wpAny_items_nil (SCL.lower (by rw [toStr_length]; simp) fun _ => ?_)⟩
      rw [lower_one c hc]
      have g₃ : Grow s₃ { s₃ with toks := s₃.toks + 1 } := .tok
      exact h X M _ (S₃.grow g₃ (Nat.le_succ _)) (((Step.ofGrow gg (Nat.le_trans t₁ (Nat.le_succ _))).trans st₃ S.there).trans (.ofGrow g₃ (Nat.le_succ _)) S.there) _ (.inl .str)
  · cases hd
end
end Mine
end
section
open PySem PySem.W PyProof.Rows
set_option Elab.async false
set_option maxRecDepth 100000
namespace Mine
section
variable {prog : Program} {w : World} {A : Around} {E : Value → Shared → Prop} {s : Shared} {env : Env}
theorem mod_call {x name : Str} {p apos pos : Pos} {args : List Expr} {Mo D : Addr} {md : Str → Option Value} {id : String} {Q : Value → Shared → Prop} (hl : (apos.endLine == pos.line) = true)
    (h3 : (backTo pos (starEach args env)).all (fun x => !x.1) = true) (h1 : (backTo pos (starEach args env)).any (·.1) = false) (hlen : args.length < 29)
    (hm : Flt.IsCMod s.heap Mo D md) (hnm : typeLookup (.type "module") name = pure none) (hv : md name = some (.builtin id)) (hh : handedOut (.builtin id) = pure (.builtin id))
    (h : wpAny (model prog w) A (eval (.Name x p) env) (fun v s₁ => v = .ref Mo ∧ s₁ = s) E s)
    (hc : wpAny (model prog w) A (spliced (backTo pos (starEach args env))) (fun vs s₂ => wpAny (model prog w) A (call (.builtin id) vs) Q E s₂) E { s with toks := s.toks + 1 }) :
    wpAny (model prog w) A (eval (.Call (.Attribute (.Name x p) name apos) args [] pos) env) Q E s := by
  rw [arm_eval_Call, base_ok (by rfl) name _]
  refine wpAny_bind (wpAny_mono h (fun ov s₁ h₁ => ?_) fun _ _ e => e)
  obtain ⟨rfl, rfl⟩ := h₁
  refine wpAny_bind (wpAny_standAt ?_)
  have hfew : ((backTo pos (starEach args env)).all (fun x => !x.1) && (backToKw pos (keywordEach [] env)).all (fun x => x.1.isSome)
      && decide (args.length + ([] : List Keyword).length + (if ([] : List Keyword).isEmpty then 0 else 1) < 30)) = true := by
    rw [h3]
    show (true && true && decide _) = true
    rw [Bool.and_true, Bool.true_and]
    exact decide_eq_true (by show args.length + 0 + 0 < 30; omega)
  have hform : methodCallForm (args.length + ([] : List Keyword).length) (backTo pos (starEach args env)) (backToKw pos (keywordEach [] env)) = true := hfew
  have hpos : methodCallPos true (.Name x p) env apos pos = pure pos := by unfold methodCallPos; simp [hl]
  unfold methodCall
  rw [hform]
  obtain ⟨hp, g, d, tk, os⟩ := s₁
  refine wpAny_bind (wpAny_holding (Flt.getMethod_module (h := hp) (g := g) (d := d) (t := tk) (os := os) hm hnm hv hh ?_))
  refine wpAny_bind (wpAny_of_eq hpos ?_)
  exact Calls.callWith_builtin h1 (evalArgs_of h3 hc)
theorem emptyDict_ok {pos : Pos} {Q : Value → Shared → Prop} (h : Q (.ref s.heap.objs.size) { s with heap := s.heap.push { cls := .type "dict", data := .dict #[] } }) :
    wpAny (model prog w) A (eval (.Dict [] [] pos) env) Q E s := by
  rw [arm_eval_Dict]
  refine wpAny_bind (wpAny_standAt ?_)
  show wpAny _ _ (newDict #[]) _ _ _
  exact wpAny_newObj_type h (by show (0 : Nat) ≤ _; omega)
theorem noneTuple_ok {k k' : Nat} {pos p : Pos} {Q : Value → Shared → Prop} (h : Q (.ref s.heap.objs.size) { s with heap := s.heap.push { cls := .type "tuple", data := .seq #[.none] } }) :
    wpAny (model prog w) A (eval (.Tuple [.Constant .none k p] k' pos) env) Q E s := by
  refine PySem.wpAny_Tuple (wpAny_items_cons (wpAny_Constant_none (wpAny_items_nil ⟨by rw [PySem.sizeLine_eq]; decide, h⟩)) rfl)
end
section
variable {prog : Program} {w : World} {A : Around} {E : Value → Shared → Prop} {s₀ s s₁ : Shared} {mg₀ mg mb : Str → Option Value} {c Pl F : Addr} {done : List DefRec} {l : List (Pos × Addr)} {ns : List Str} {vs : List (Str × Value)} {objs : List (Addr × Obj)}
theorem TopSt.assignPat (T : TopSt s₀ mg₀ c Pl done l ns vs objs mg s) {x : Str} {pos pos' : Pos}
    (hloc : prog.main.scope.names.lookup x = some .local) (hmod : prog.main.scope.kind = .module)
    (hx : x ≠ "__builtins__") (hd : ∀ e ∈ done, e.name ≠ x) (hv : ∀ p ∈ vs, p.1 ≠ x) (hsys : (s₀.heap.get? sysModules).isSome)
    {Mo D : Addr} {md : Str → Option Value} (hM : Flt.IsCMod s₀.heap Mo D md) (hne : Mo ≠ mainGlobals ∧ D ≠ mainGlobals) (hmd : md "compile" = some (.builtin "_sre.compile")) (hg : mg "_sre" = some (.ref Mo))
    {es : List Expr} {is : List Int} {pat : Str} {k1 k2 k3 k4 k5 : Nat} {p0 p1 p2 p3 p4 p5 p6 p7 p8 p9 : Pos} (hl : (p0.endLine == p9.line) = true)
    (hes : es.mapM intConst = some is) (hlen : is.length ≤ 1000) (hrange : ∀ i ∈ is, 0 ≤ i ∧ i < 2 ^ 32) (hwf : Sre.wellFormed (is.map Int.toNat).toArray 0 = true)
    {rest : List Stmt} {Q : Flow → Shared → Prop}
    (h : ∀ ad tu t t' s',
      TopSt s₀ mg₀ c Pl done l (x :: ns) ((x, .ref ad) :: vs) ((ad, { cls := .type "re.Pattern", data := .fields #[.str pat t, .int 32 t', rawInt 0, .none, .none, .ref tu, rawInt 0] }) :: (tu, { cls := .type "tuple", data := .seq (((is.map Int.toNat).map fun w : Nat => rawInt w)).toArray }) :: objs) (fun z => if z = x then some (.ref ad) else mg z) s' →
      wpAny (model prog w) A (execs rest (mainEnv prog c F)) Q E s') :
    wpAny (model prog w) A (execs (.Assign [.Name x pos'] (.Call (.Attribute (.Name "_sre" p1) "compile" p0) [.Constant (.str pat) k1 p2, .Constant (.int 32) k2 p3, .List es p4, .Constant (.int 0) k3 p5, .Dict [] [] p6, .Tuple [.Constant .none k4 p7] k5 p8] [] p9) pos :: rest) (mainEnv prog c F)) Q E s := by
  refine T.assign (by rfl) hloc hmod hx hd hv ?_
  refine toksOf (mod_call hl rfl rfl (by simp) (⟨T.keep _ _ hne.1 hM.1, hM.2.at fun o => T.keep _ o hne.2⟩ : Flt.IsCMod s.heap Mo D md) FS.lk_compile hmd FS.handed_compile ?_ ?_)
  · exact Calls.Name_module hmod rfl (Calls.loadGlobal_global T.main.g hg ⟨rfl, rfl⟩) rfl
  refine wpAny_items_cons (wpAny_Constant_str (wpAny_items_cons (wpAny_Constant_int (wpAny_items_cons (PySem.wpAny_List (ints_ok hes fun us k iv hk => ⟨by rw [PyProof.Rows.ints_len_eq iv, PySem.sizeLine_eq]; omega, ?_⟩)) rfl)) rfl)) rfl
  refine wpAny_items_cons (wpAny_Constant_int (wpAny_items_cons (emptyDict_ok (wpAny_items_cons (noneTuple_ok (wpAny_items_nil ?_)) rfl)) rfl)) rfl
  have g1 : Grown s.heap (s.heap.push { cls := .type "list", data := .seq us.toArray }) := fun b o e => Heap.get?_push_of_some _ e
  have hsys' : (s.heap.get? sysModules).isSome := by
    obtain ⟨o, e⟩ := Option.isSome_iff_exists.mp hsys
    rw [T.keep _ _ (by decide) e]; rfl
  refine compile_ok (lv := us.toArray) (ns := is) ⟨0, Heap.get?_push_of_some _ (Heap.get?_push_of_some _ (Heap.get?_push_size _ rfl))⟩ (by simpa using iv) hrange hwf hlen
    (Heap.get?_push_of_some _ (Heap.get?_push_size _ rfl)) ?_ ⟨_, Heap.get?_push_size _ rfl, rfl⟩ fun ad tu s' g' n1 n2 hT hP ht => ?_
  · exact beq_eq_false_iff_ne.mpr fun q => by
      have := newAt_size g1 _ hsys'
      rw [← q] at this
      exact absurd this (Nat.lt_irrefl _)
  · obtain ⟨t', hP⟩ := hP
    have g2 : Grown s.heap s'.heap := fun b o e => g'.heap b o (Heap.get?_push_of_some _ (Heap.get?_push_of_some _ (g1 b o e)))
    have up : ∀ {a : Addr}, NewAt (((s.heap.push { cls := .type "list", data := .seq us.toArray }).push { cls := .type "dict", data := .dict #[] }).push { cls := .type "tuple", data := .seq #[.none] }) a → Pl < a := fun n => n Pl (by
      obtain ⟨o, e⟩ := Option.isSome_iff_exists.mp T.Pl_lt
      rw [Heap.get?_push_of_some _ (Heap.get?_push_of_some _ (g1 _ o e))]; rfl)
    refine ⟨[(ad, { cls := .type "re.Pattern", data := .fields #[.str pat (s.toks + 1), .int 32 t', rawInt 0, .none, .none, .ref tu, rawInt 0] }), (tu, { cls := .type "tuple", data := .seq (((is.map Int.toNat).map fun w : Nat => rawInt w)).toArray })], (T.grow (s₁ := s') ⟨g2, g'.gens, g'.drawn, g'.os⟩ ht).more ?_, fun s'' T' => h ad tu (s.toks + 1) t' s'' T'⟩
    intro q hq
    rcases List.mem_cons.mp hq with rfl | hq
    · exact ⟨hP, up n1⟩
    · rcases List.mem_cons.mp hq with rfl | hq
      · exact ⟨hT, up n2⟩
      · cases hq
end
end Mine
end
section
open PySem PySem.W PyProof.Rows
set_option Elab.async false
set_option maxRecDepth 100000
namespace Mine
noncomputable def sreOk (h : Heap) : Bool := match h.nsMap mainGlobals "_sre" with
  | some (.ref m) => m != mainGlobals && (match h.get? m with
    | some ⟨.type c, some d, .plain, sl⟩ => c == "module" && sl.size == 0 && d != mainGlobals && h.isNs d && (match h.nsMap d "compile" with
      | some (.builtin b) => b == "_sre.compile"
      | _ => false)
    | _ => false)
  | _ => false
noncomputable def openFacts (mods : List Str) (s : Shared) : Bool :=
  s.heap.isNs mainGlobals && s.heap.isNs builtinsNs && s.gens.size == 0 && decide (0 < s.toks) && s.heap.accountedOkI mods && s.heap.bmainOk && s.heap.isNs cStatics && (s.heap.nsMap cStatics "sys.recursionlimit").isNone &&
  sreOk s.heap && (s.heap.get? sysModules).isSome && (s.heap.nsKeys mainGlobals).all fun k => startupNames.contains k || k == ("_sre" : Str)
structure Opn (mods : List Str) (s : Shared) : Prop where
  g : s.heap.Ns mainGlobals (s.heap.nsMap mainGlobals)
  b : s.heap.Ns builtinsNs (s.heap.nsMap builtinsNs)
  boot : ∀ x : Str, x ≠ "__name__" → s.heap.nsMap builtinsNs x = bootBuiltins x
  gens : s.gens = #[]
  toks : 0 < s.toks
  acc : staticsAccountedI s.heap mods
  bmain : ∃ bm ob, s.heap.nsMap mainGlobals "__builtins__" = some (.ref bm) ∧ bm ≠ builtinsNs ∧ bm ≠ mainGlobals ∧ s.heap.get? bm = some ob ∧ ob.cls = .type "module" ∧ ob.dict = some builtinsNs ∧ ob.data = .plain
  nolimit : s.heap.NoLimit
  sre : ∃ Mo D md, s.heap.nsMap mainGlobals "_sre" = some (.ref Mo) ∧ Flt.IsCMod s.heap Mo D md ∧ Mo ≠ mainGlobals ∧ D ≠ mainGlobals ∧ md "compile" = some (.builtin "_sre.compile")
  sys : (s.heap.get? sysModules).isSome
  names : ∀ x, x ∉ startupNames → x ≠ "_sre" → s.heap.nsMap mainGlobals x = none
theorem sre_of {h : Heap} (x : sreOk h = true) : ∃ Mo D md, h.nsMap mainGlobals "_sre" = some (.ref Mo) ∧ Flt.IsCMod h Mo D md ∧ Mo ≠ mainGlobals ∧ D ≠ mainGlobals ∧ md "compile" = some (.builtin "_sre.compile") := by
  unfold sreOk at x
  split at x
  · rename_i m hm
    rw [Bool.and_eq_true, bne_iff_ne] at x
    obtain ⟨h1, x⟩ := x
    split at x
    · rename_i c d sl ho
      simp only [Bool.and_eq_true, beq_iff_eq, bne_iff_ne, Array.size_eq_zero_iff] at x
      obtain ⟨⟨⟨⟨rfl, rfl⟩, h2⟩, h3⟩, x⟩ := x
      split at x
      · rename_i b hb
        rw [beq_iff_eq] at x
        subst x
        exact ⟨m, d, _, hm, ⟨ho, .of_isNs h3⟩, h1, h2, hb⟩
      · cases x
    · cases x
  · cases x
theorem opn_of {mods : List Str} {s : Shared} (h : openFacts mods s = true) (hv : s.heap.bltView = bltViewBooted) : Opn mods s := by
  unfold openFacts at h
  simp only [Bool.and_eq_true, decide_eq_true_eq, beq_iff_eq, Option.isNone_iff_eq_none, List.all_eq_true] at h
  obtain ⟨⟨⟨⟨⟨⟨⟨⟨⟨⟨h1, h2⟩, h3⟩, h4⟩, h5⟩, h6⟩, h7⟩, h8⟩, h9⟩, h10⟩, h11⟩ := h
  have hg := Heap.Ns.of_isNs h1
  refine ⟨hg, .of_isNs h2, fun x hx => Heap.of_bltView h2 hv x hx, Array.eq_empty_of_size_eq_zero h3, h4, Heap.accountedI_of_ok h5, ?_, ⟨_, .of_isNs h7, h8⟩, sre_of h9, h10, fun x hx hx' => Heap.nsMap_none fun hk => ?_⟩
  · obtain ⟨bm, ob, a, b, c, d, e, f⟩ := Heap.bmainOk_spec h6
    refine ⟨bm, ob, a, b, fun q => ?_, c, d, e, f⟩
    subst q
    obtain ⟨o, es, ep, ho, hd, _⟩ := hg
    rw [c] at ho
    cases ho
    rw [f] at hd
    cases hd
  · have := h11 x hk
    rw [Bool.or_eq_true, List.contains_iff_mem, beq_iff_eq] at this
    rcases this with q | q
    · exact hx q
    · exact hx' q
theorem opened {p : Program} {w : World} {N : Nat} {mods : List Str} (h : (fencedOpening treeTable p w N).map (fun s => (openFacts mods s, s.heap.bltView)) = some (true, bltViewBooted)) :
    (∃ s, AfterRun (opening p) w s) ∧ ∀ s, AfterRun (opening p) w s → ∃ s₀, fenceModules? p s = some s₀ ∧ s₀.asleep ∧ Opn mods s₀ := by
  rw [← table_eq_tree] at h
  obtain ⟨s₀, h1, e⟩ := Option.map_eq_some_iff.mp h
  obtain ⟨s, h4, h5⟩ := Option.bind_eq_some_iff.mp h1
  have A := AfterImport.of_importEnds h4
  refine ⟨⟨s, A⟩, fun s' hs' => ?_⟩
  obtain rfl : s' = s := AfterImport.unique hs' A
  exact ⟨s₀, h5, Shared.asleep_of_life (fence_lifeW h5) A.life, opn_of (congrArg Prod.fst e) (congrArg Prod.snd e)⟩
structure AfterTop (p : Program) (mods : List Str) (s₀ s : Shared) (mg : Str → Option Value) (ns : List Str) : Prop where
  g : s.heap.Ns mainGlobals mg
  keep : ∀ b o, b ≠ mainGlobals → s₀.heap.get? b = some o → s.heap.get? b = some o
  gens : s.gens = #[]
  os : s.os = s₀.os
  names : ∀ x, x ∉ ns → mg x = s₀.heap.nsMap mainGlobals x
  bmain : ∃ bm ob, mg "__builtins__" = some (.ref bm) ∧ s.heap.get? bm = some ob ∧ ob.cls = .type "module" ∧ ob.dict = some builtinsNs
  own : ∀ x ∈ ns, x ∈ p.boundNames
  sre : ("_sre" : Str) ∈ p.boundNames
  laid : ∀ x ∈ laidNames, x ∉ ns
theorem topRan_of {p : Program} {w : World} {s₀ s : Shared} {mg : Str → Option Value} {ns : List Str} (O : Opn (importedModules p.main.body) s₀)
    (hrun : ∃ n t, schedN (denote table) p w n (.single s₀ (topStub p)) = .running (.single s t) ∧ through t = true) (hlife : s.heap.life = s₀.heap.life) (T : AfterTop p (importedModules p.main.body) s₀ s mg ns) : TopRan p w s₀ s := by
  have hst : ∀ key, staticOf s.heap key = staticOf s₀.heap key := fun key => by
    obtain ⟨_, ⟨o, es, ep, ho, hd, _⟩, _⟩ := O.nolimit
    unfold staticOf
    rw [T.keep cStatics o (by decide) ho, ho]
  have hbt : ∀ key, builtinOf s.heap key = builtinOf s₀.heap key := fun key => by
    obtain ⟨o, es, ep, ho, hd, _⟩ := O.b
    unfold builtinOf
    rw [T.keep builtinsNs o (by decide) ho, ho]
  refine ⟨hrun, hlife, Shared.rest_eq T.os, fun b o e hn => T.keep b o (fun q => hn (.inl q)) e, ?_, fun key => .inl (hst key), ?_, ?_, ?_, ?_, ?_, ?_⟩
  · have := O.acc
    unfold staticsAccountedI at this ⊢
    simpa only [hst] using this
  · obtain ⟨o, es, ep, ho, hd, hk, _⟩ := T.g
    exact ⟨o, es, ep, ho, hd, fun e he => hk e he⟩
  · intro name hne
    rw [hbt]
    have : builtinOf s₀.heap name = s₀.heap.nsMap builtinsNs name := by
      obtain ⟨o, es, ep, ho, hd, hk, hf⟩ := O.b
      unfold builtinOf
      rw [ho]
      dsimp only
      rw [hd, ← hf name]
      rfl
    rw [this, O.boot name hne]
    rfl
  · obtain ⟨bm, ob, a, b, c, d⟩ := T.bmain
    exact ⟨bm, ob, (PySem.Claim2Try.globalOf_of_ns T.g _).trans a, b, c, d⟩
  · intro g hg
    rw [T.gens] at hg
    simp at hg
  · intro x v hv
    rw [PySem.Claim2Try.globalOf_of_ns T.g] at hv
    by_cases hx : x ∈ ns
    · exact .inr (T.own x hx)
    · rw [T.names x hx] at hv
      by_cases h1 : x ∈ startupNames
      · exact .inl h1
      · by_cases h2 : x = "_sre"
        · subst h2; exact .inr T.sre
        · rw [O.names x h1 h2] at hv; cases hv
  · intro x hx
    rw [PySem.Claim2Try.globalOf_of_ns T.g, PySem.Claim2Try.globalOf_of_ns O.g, T.names x (T.laid x hx)]
end Mine
end
section
open PySem PySem.W PyProof.Rows
set_option Elab.async false
set_option maxRecDepth 100000
namespace Mine
theorem stub_ok {p : Program} {w : World} {mods : List Str} {s₀ : Shared} {P : Shared → Prop} (O : Opn mods s₀) (hann : hasAnns (behindTheImports p) = false) (hdoc : docOf (behindTheImports p) = none)
    (body : ∀ A c Pl F s, A.handled = none → TopSt s₀ (s₀.heap.nsMap mainGlobals) c Pl [] [] [] [] [] (s₀.heap.nsMap mainGlobals) s →
      wpAny (model p w) A (execs (behindTheImports p) (mainEnv p c F)) (fun _ s' => P s') (fun _ _ => False) s) :
    wpAny (model p w) callerA (topStub p).cur (fun fin s' => ∃ f, fin = .done f ∧ P s') (fun _ _ => False) s₀ := by
  unfold topStub
  refine wpAny_bind (toksOf (wpAny_moduleCode fun c Pl h₁ tk hk hc hPl hcode ht => ?_))
  unfold newBodyFrame
  refine wpAny_bind (wpAny_bind (wpAny_nsGet (O.g.keeps hk) (wpAny_alloc ?_)))
  refine wpAny_bind (wpAny_run (codeAny_body hann hdoc (wpAny_mono (body _ c Pl _ _ rfl ?_) (fun f s' h => ?_) fun _ _ x => x.elim)))
  · have g : ∀ ob, Grown s₀.heap (h₁.push ob) := fun ob b o e => Heap.get?_push_of_some _ (hk b o e)
    refine ⟨⟨O.g.keeps (g _), hcode.push _, ⟨Nat.lt_of_lt_of_le O.g.lt hc, Nat.lt_of_lt_of_le O.g.lt hPl⟩, ?_⟩, hPl, fun b o _ e => g _ b o e, rfl, rfl, rfl, ht, (fun _ h => nomatch h), fun _ _ => rfl, (fun _ h => nomatch h), (fun _ h => nomatch h)⟩
    obtain ⟨bm, ob, h1, h2, h3, h4, h5⟩ := O.bmain
    exact ⟨bm, ob, h1, h2, h3, fun q => absurd (Heap.lt_size h4) (Nat.not_lt.mpr (q ▸ hPl)), g _ _ _ h4, h5⟩
  · exact wpAny_pure ⟨_, rfl, h⟩
end Mine
end
section
open PySem PySem.W PyProof.Rows
set_option Elab.async false
set_option maxRecDepth 100000
namespace Mine
theorem ints_of_items : ∀ {xs : List WData}, WShape.hasItems [] xs .int = true → ∃ ns : List Int, xs = ns.map .int
  | [], _ => ⟨[], rfl⟩
  | x :: xs, h => by
    simp only [WShape.hasItems, Bool.and_eq_true] at h
    obtain ⟨i, rfl⟩ := hasW_int h.1
    obtain ⟨ns, rfl⟩ := ints_of_items h.2
    exact ⟨i :: ns, rfl⟩
theorem pre_of {l : OpenLaw} (hmost : l.most = some 63) (hbound : l.bound = none) {args : List WData} (h : l.row.toRowW.claim.pre args = true) : ∃ ns : List Int, args = [.list (ns.map .int)] ∧ ns.length ≤ 63 := by
  obtain ⟨h1, h2⟩ := pre_splitW h
  obtain ⟨d, r, rfl, a, b⟩ := hasAllW_cons h1
  obtain rfl := hasAllW_nil b
  obtain ⟨xs, rfl, hx⟩ := hasW_list a
  obtain ⟨ns, rfl⟩ := ints_of_items hx
  refine ⟨ns, rfl, ?_⟩
  have h3 : l.pre.holds [] { args := [.list (ns.map .int)] } = true := h2
  unfold OpenLaw.pre at h3
  rw [hmost, hbound] at h3
  simp [WTm.holds, WTm.value] at h3
  rw [show less? (.int 63) (.int ns.length) = some (decide ((63 : Int) < ns.length)) from rfl] at h3
  by_cases q : (63 : Int) < ns.length
  · rw [decide_eq_true q] at h3
    cases h3
  · omega
theorem lay_ints {cl : Str → Option Addr} {P : Params} {ord : List DictEntry → List DictEntry} : ∀ (ns : List Int) (s : Shared), ∃ vs, layAllW [] cl P ord (ns.map .int) s = some (vs, { s with toks := s.toks + ns.length }) ∧ IntsAre vs ns
  | [], s => ⟨[], rfl, .nil⟩
  | n :: ns, s => by
    obtain ⟨vs, e, h⟩ := lay_ints (cl := cl) (P := P) (ord := ord) ns { s with toks := s.toks + 1 }
    refine ⟨.int n s.toks :: vs, ?_, .cons _ _ h⟩
    rw [List.map_cons, layAllW, layW]
    dsimp only
    rw [e]
    simp [Nat.add_assoc, Nat.add_comm 1]
noncomputable def Final (l : OpenLaw) (w : World) (s₀ s : Shared) : Prop :=
  ∃ mg ns f, AfterTop l.prog (importedModules l.prog.main.body) s₀ s mg ns ∧ isTheDefsW l.prog s.heap l.name ∧ mg l.name = some f ∧ s₀.toks ≤ s.toks ∧
    ∀ (zs : List Int) (vs : List Value) (s₁ : Shared) (Q : Value → Shared → Prop) (E : Value → Shared → Prop), zs.length ≤ 63 → Grown s.heap s₁.heap → 0 < s₁.toks → Reps s₁.heap (fun _ => False) [.list (zs.map .int)] vs →
      (∀ s', Grow s₁ s' → Q (.bool true) s') → wpAny (model l.prog w) callerA (call f vs) Q E s₁
theorem law_holds {l : OpenLaw} {N : Nat} (hsaid : l.wellSaid = true) (hrow : l.row.wellSaid = true) (hmost : l.most = some 63) (hbound : l.bound = none) (hwr : l.writes = false) (hb : l.prog.bare) (ow : opensWell l.prog = true) (hw : l.row.toRowW.promised)
    (hann : hasAnns (behindTheImports l.prog) = false) (hdoc : docOf (behindTheImports l.prog) = none)
    (hopen : ∀ w, (fencedOpening treeTable l.prog w N).map (fun s => (openFacts (importedModules l.prog.main.body) s, s.heap.bltView)) = some (true, bltViewBooted))
    (body : ∀ w s₀ A c Pl F s, Opn (importedModules l.prog.main.body) s₀ → A.handled = none → TopSt s₀ (s₀.heap.nsMap mainGlobals) c Pl [] [] [] [] [] (s₀.heap.nsMap mainGlobals) s →
      wpAny (model l.prog w) A (execs (behindTheImports l.prog) (mainEnv l.prog c F)) (fun _ s' => Final l w s₀ s') (fun _ _ => False) s) : l.Holds := by
  refine ⟨hsaid, hrow, hw, ⟨hb, ow, rfl⟩, ?_, fun w => ⟨(opened (hopen w)).1, fun s' hs' => ?_⟩⟩
  · obtain ⟨args, h1, h2⟩ := hw
    exact ⟨args, h1, (Bool.and_eq_true_iff.mp h2).1⟩
  obtain ⟨s₀, hf, hz, O⟩ := (opened (hopen w)).2 s' hs'
  refine ⟨s₀, hf, O.gens, ?_⟩
  obtain ⟨n, s, t, s₂, hn, ht, hfo, F, hlife⟩ := top_ran (prog := l.prog) (w := w) (R := fun s' => Final l w s₀ s') hz (wpAny_mono (stub_ok O hann hdoc (fun A c Pl F s hh T => body w s₀ A c Pl F s O hh T)) (fun fin s' ⟨f, e, h⟩ => ⟨f, e, h, by
    obtain ⟨_, _, _, a, _⟩ := h
    rw [a.gens]; simp [leftWithCleanup]⟩) fun _ _ x => x)
  obtain ⟨mg, ns, f, AT, pin, hmg, htk, hcall⟩ := F
  obtain rfl := Shared.eq_of_forget_eq hfo AT.gens
  have hz' : s.asleep := Shared.asleep_of_life hlife hz
  refine ⟨s, topRan_of O ⟨n, t, hn, ht⟩ hlife AT, fun x hx => ?_, (fun _ hx => nomatch hx), (fun _ hx => nomatch hx), ?_⟩
  · obtain rfl : x = l.name := by
      have : x ∈ [l.name] := hx
      simpa using this
    exact pin
  refine ClaimW.callFrom_of_specG (c := l.row.toRowW.claim) (tree := fun vs => do match ← nsGet mainNs l.name with
      | some f => do ret (← call f vs)
      | none => unsupported "claim.caller:no-such-global") hz' AT.gens fun args hpre hlay ord hord => ?_
  obtain ⟨zs, rfl, hlen⟩ := pre_of hmost hbound hpre
  obtain ⟨vs, hvs, iv⟩ := lay_ints (cl := classAt s.heap) (P := w.params) (ord := ord) zs s
  let s₁ : Shared := { s with heap := s.heap.push { cls := .type "list", data := .seq vs.toArray }, toks := s.toks + zs.length }
  have hlaid : layAllW l.row.toRowW.claim.records (classAt s.heap) w.params ord [.list (zs.map .int)] s = some ([.ref s.heap.objs.size], s₁) := by
    show layAllW [] _ _ _ _ _ = _
    rw [layAllW, layW, hvs]
    rfl
  have keeps := layAllW_keeps _ _ _ hlaid
  have hal := layAllW_rest _ _ _ hlaid
  obtain ⟨as, hrd, hin, hold⟩ := reads_layAllW hord _ _ _ hlaid hlay s₁.heap (fun _ _ e => e)
  have L : Laid [] w s s₁ [.list (zs.map .int)] [.ref s.heap.objs.size] as := ⟨⟨ord, hord, hlaid⟩, hrd, hin, hold, keeps, hal.1.trans AT.gens, hal.2.2.1⟩
  refine ⟨_, _, hlaid, ?_⟩
  have g₁ : Grown s.heap s₁.heap := fun b o e => Heap.get?_push_of_some _ e
  refine wpAny_bind (wpAny_nsGet (AT.g.keeps g₁) ?_)
  rw [hmg]
  refine wpAny_bind (hcall zs _ s₁ _ _ hlen g₁ (Nat.lt_of_lt_of_le O.toks (Nat.le_trans htk (Nat.le_add_right _ _))) ?_ fun s' g => ?_)
  · refine .cons ?_ .nil
    unfold Rep
    exact ⟨_, vs, rfl, id, ⟨0, Heap.get?_push_size _ rfl⟩, ints_reps iv⟩
  · refine wpAny_pure ⟨_, rfl, ?_⟩
    have hpost : l.row.toRowW.claim.post [.list (zs.map .int)] (.bool true) [.list (zs.map .int)] = true := by
      show (WShape.has [] (.bool true) .bool && WTm.holds [] (.eq .res (.lit (.bool true))) { args := [.list (zs.map .int)], res := some (.bool true), after := [.list (zs.map .int)] }) = true
      simp [WShape.has, WShape.arms, WTm.holds, WTm.value]
      rw [show same (WData.bool true) (WData.bool true) = true from by decide +kernel]
    have z := GoodWG.laid (c := l.row.toRowW.claim) rfl rfl (ident_freeW (r := l.row.toRowW) rfl rfl rfl) L (r := .ok (.ret (.bool true))) (s' := s')
      (GoodW.toG ⟨.inl ⟨.bool true, .bool true, [], rfl, (fun _ => rfl), .bool true, hpost, fun _ => ⟨.nil, fun _ h => nomatch h⟩⟩, g.heap, g.os, g.gens.trans AT.gens⟩)
    exact ⟨z.1, z.2.1, z.2.2, fun q => by
      have : l.writes = true := q
      rw [hwr] at this; cases this⟩
end Mine
end
section
open PySem PySem.W PyProof.Rows
set_option Elab.async false
set_option maxRecDepth 10000
namespace Mine
noncomputable def muts : Nat → List Stmt → List Str
  | 0, _ => []
  | n + 1, l => l.flatMap fun st => match st with
    | .Expr (.Call (.Attribute (.Name x _) m _) _ _ _) _ => if m == "append" || m == "extend" then [x] else []
    | .If _ b o _ => muts n b ++ muts n o
    | .For _ _ b _ _ => muts n b
    | .While _ b _ _ => muts n b
    | _ => []
noncomputable def argNames (a : Arguments) : List Str := a.args.map (·.arg)
noncomputable abbrev Tab := List (Str × (List D → Option D))
noncomputable def stepG (G : Tab) (d : DefRec) : Tab := (d.name, pdef G (argNames d.params) d.scope.names (muts 8 d.body) d.body) :: G
noncomputable def tabG (G : Tab) (ds : List DefRec) : Tab := ds.foldl stepG G
noncomputable def fineDef (d : DefRec) : Bool := defOk (argNames d.params) d.scope.names && decide (d.scope.kind = .function) && !d.scope.isCoroutine && !d.scope.isGenerator
noncomputable def BindOk (d : DefRec) : Prop := ∀ pm code doc vs, vs.length = (argNames d.params).length → bindArgs (d.data pm code doc) ⟨vs, []⟩ = pure ((argNames d.params).zip vs)
noncomputable def allFns (h : Heap) (ns : List Str) : List (Str × Addr × Obj) := ns.flatMap fun x => (List.range h.objs.size).filterMap fun a => (h.get? a).map fun o => (x, a, o)
theorem mem_allFns {h : Heap} {ns : List Str} {x : Str} {a : Addr} {o : Obj} (hx : x ∈ ns) (e : h.get? a = some o) : (x, a, o) ∈ allFns h ns :=
  List.mem_flatMap.mpr ⟨x, hx, List.mem_filterMap.mpr ⟨a, List.mem_range.mpr (Heap.lt_size e), by rw [e]; rfl⟩⟩
theorem of_allFns {h : Heap} {ns : List Str} {p : Str × Addr × Obj} (hp : p ∈ allFns h ns) : h.get? p.2.1 = some p.2.2 := by
  obtain ⟨x, _, hp⟩ := List.mem_flatMap.mp hp
  obtain ⟨a, _, e⟩ := List.mem_filterMap.mp hp
  obtain ⟨o, e', rfl⟩ := Option.map_eq_some_iff.mp e
  exact e'
section
variable {prog : Program} {w : World} {mg mb : Str → Option Value}
theorem funIs_of {h : Heap} {ns : List Str} {d : DefRec} {Pl : Addr} (hn : d.name ∈ ns) (hf : h.HasFn mg Pl d) (hfine : fineDef d = true) (hb : BindOk d) :
    ∃ a o fd, mg d.name = some (.ref a) ∧ (d.name, a, o) ∈ allFns h ns ∧ o.data = .func fd ∧ FunIs (allFns h ns) a (argNames d.params) d.scope.names d.body fd := by
  obtain ⟨a, o, pm, code, doc, h1, h2, h3, h4, _⟩ := hf
  simp only [fineDef, Bool.and_eq_true, decide_eq_true_eq, Bool.not_eq_true'] at hfine
  obtain ⟨⟨⟨_, k⟩, co⟩, ge⟩ := hfine
  refine ⟨a, o, _, h1, mem_allFns hn h2, h3, ⟨⟨_, o, mem_allFns hn h2, h3⟩, ?_, rfl, k, co, ge, rfl, rfl, rfl, rfl, fun vs hv => hb _ _ _ vs hv⟩⟩
  obtain ⟨c, oc, vs, t, e, g, dd, q⟩ := h4
  exact ⟨d.name, c, oc, vs, t, e, mem_allFns hn g, dd, q⟩
theorem FunOk.up {fns : List (Str × Addr × Obj)} {n m : Nat} {v : Value} {F : List D → Option D} (h : FunOk prog w mg mb fns n v F) (hm : n ≤ m) : FunOk prog w mg mb fns m v F :=
  fun A E s X ds vs d Q R g t tk r e q => h A E s X ds vs d Q ⟨R.handled, by have := R.depth; omega, by have := R.units; omega⟩ g t tk r e q
theorem World0.up {fns : List (Str × Addr × Obj)} {G : Tab} {n m : Nat} (W : World0 prog w mg mb fns G n) (hm : n ≤ m) : World0 prog w mg mb fns G m :=
  ⟨fun x F e => let ⟨a, o, fd, h1, h2, h3, h4⟩ := W.fn x F e; ⟨a, o, fd, h1, h2, h3, h4.up hm⟩, W.boot⟩
theorem World0.cons {fns : List (Str × Addr × Obj)} {G : Tab} {n : Nat} (W : World0 prog w mg mb fns G n) {x : Str} {F : List D → Option D} {a : Addr} {o : Obj} {fd : FuncData} (h1 : mg x = some (.ref a)) (h2 : (x, a, o) ∈ fns) (h3 : o.data = .func fd)
    (h4 : FunOk prog w mg mb fns n (.ref a) F) : World0 prog w mg mb fns ((x, F) :: G) n :=
  ⟨fun y K e => by
    rw [List.lookup_cons] at e
    cases q : y == x with
    | true =>
      rw [q] at e
      cases e
      obtain rfl : y = x := eq_of_beq q
      exact ⟨a, o, fd, h1, h2, h3, h4⟩
    | false => rw [q] at e; exact W.fn y K e, W.boot⟩
theorem world_of {h : Heap} {ns : List Str} {Pl : Addr} : ∀ (ds : List DefRec) {G : Tab} {n : Nat}, World0 prog w mg mb (allFns h ns) G n → (∀ d ∈ ds, d.name ∈ ns ∧ h.HasFn mg Pl d ∧ fineDef d = true ∧ BindOk d) → World0 prog w mg mb (allFns h ns) (tabG G ds) (n + ds.length)
  | [], G, n, W, _ => W
  | d :: ds, G, n, W, hd => by
    obtain ⟨h1, h2, h3, h4⟩ := hd d List.mem_cons_self
    obtain ⟨a, o, fd, m1, m2, m3, F⟩ := funIs_of h1 h2 h3 h4
    have hok : defOk (argNames d.params) d.scope.names = true := by
      simp only [fineDef, Bool.and_eq_true] at h3
      exact h3.1.1.1
    have := world_of ds (G := stepG G d) (n := n + 1) (World0.cons (W.up (Nat.le_succ n)) m1 m2 m3 (def_ok W F hok)) fun e he => hd e (List.mem_cons_of_mem _ he)
    rw [show n + (d :: ds).length = n + 1 + ds.length from by simp; omega]
    exact this
end
end Mine
end
section
open PySem PySem.W PyProof.Rows
set_option Elab.async false
set_option maxRecDepth 10000
namespace Mine
noncomputable def IsB1 (d : DefRec) : Prop := d.name = Str.ofString "in_table_b1" ∧ argNames d.params = [Str.ofString "code"] ∧ d.scope.names = scB1 ∧
  ∃ p1 p2 p3 p4 p5 p6, d.body = [.Return (some (.Compare (.Call (.Name (Str.ofString "ord") p1) [.Name (Str.ofString "code") p2] [] p3) [.In] [.Name (Str.ofString "b1_set") p4] p5)) p6]
noncomputable def IsB3 (d : DefRec) : Prop := d.name = Str.ofString "map_table_b3" ∧ argNames d.params = [Str.ofString "code"] ∧ d.scope.names = scB3 ∧
  ∃ q1 q2 q3 q4 q5 q6 q7 q8 q9 q10 q11 q12 q13 q14 q15 q16 q17 q18 k, (q3.endLine == q7.line) = true ∧ (q16.endLine == q17.line) = true ∧ d.body = [.Assign [.Name (Str.ofString "r") q1] (.Call (.Attribute (.Name (Str.ofString "b3_exceptions") q2) (Str.ofString "get") q3) [.Call (.Name (Str.ofString "ord") q4) [.Name (Str.ofString "code") q5] [] q6] [] q7) q8,
      .If (.Compare (.Name (Str.ofString "r") q9) [.IsNot] [.Constant .none k q10] q11) [.Return (some (.Name (Str.ofString "r") q12)) q13] [] q14, .Return (some (.Call (.Attribute (.Name (Str.ofString "code") q15) (Str.ofString "lower") q16) [] [] q17)) q18]
noncomputable def IsFix (d : DefRec) : Prop := d.name = Str.ofString "_fix_eols" ∧ argNames d.params = [Str.ofString "data"] ∧ d.scope.names = scFix ∧
  ∃ q1 q2 q3 q4 q5 q6, (q2.endLine == q5.line) = true ∧ d.body = [.Return (some (.Call (.Attribute (.Name (Str.ofString "_twin_re_1") q1) (Str.ofString "sub") q2) [.Name (Str.ofString "CRLF") q3, .Name (Str.ofString "data") q4] [] q5)) q6]
noncomputable def tab0 (t : List (Int × Str)) : Tab := [(Str.ofString "in_table_b1", inB1), (Str.ofString "map_table_b3", map3 t), (Str.ofString "_fix_eols", fixE)]
noncomputable def b1Ints : List Int := [173, 847, 6150, 6155, 6156, 6157, 8203, 8204, 8205, 8288, 65279]
theorem b1_set_is (c : Nat) : (firstMet (fun i => (b1Ints ++ span 65024 16).getD i 0) (b1Ints.length + 16)).any (· == (c : Int)) = b1Nums.contains c := by
  have e : firstMet (fun i => (b1Ints ++ span 65024 16).getD i 0) (b1Ints.length + 16) = b1Nums.map fun c : Nat => (c : Int) := by decide +kernel
  rw [e, List.any_map, List.contains_eq_any_beq]
  congr 1
  funext x
  show ((x : Int) == (c : Int)) = (c == x)
  cases h : c == x with
  | true => rw [eq_of_beq h]; simp
  | false => simp only [beq_eq_false_iff_ne] at h ⊢; omega
noncomputable def simpleDef (d : DefRec) : Bool := d.params.defaults.isEmpty && d.params.kwonlyargs.isEmpty && d.params.kw_defaults.isEmpty
section
variable {l : OpenLaw} {w : World} {s₀ s : Shared} {c Pl : Addr} {done ds : List DefRec} {lp : List (Pos × Addr)} {ns : List Str} {vs : List (Str × Value)} {objs : List (Addr × Obj)} {mg : Str → Option Value}
theorem final_of (O : Opn (importedModules l.prog.main.body) s₀) (T : TopSt s₀ (s₀.heap.nsMap mainGlobals) c Pl done lp ns vs objs mg s)
    (hown : ∀ x ∈ ns, x ∈ l.prog.boundNames) (hsre : ("_sre" : Str) ∈ l.prog.boundNames) (hlaid : ∀ x ∈ laidNames, x ∉ ns) (hboot : ∀ x ∈ (["len", "ord", "chr", "sum", "sorted", "range"] : List Str), x ∉ ns)
    {t : List (Int × Str)} {kvs : List (Int × Value)} {ad1 ad3 P tu : Addr} {o1 o3 : Obj} {tp tq tc : Tok} {pat : Str}
    (v1 : (Str.ofString "b1_set", Value.ref ad1) ∈ vs) (v3 : (Str.ofString "b3_exceptions", Value.ref ad3) ∈ vs) (vp : (Str.ofString "_twin_re_1", Value.ref P) ∈ vs) (vc : (Str.ofString "CRLF", Value.str (toStr [13, 10]) tc) ∈ vs)
    (m1 : (ad1, o1) ∈ objs) (m3 : (ad3, o3) ∈ objs) (mp : (P, ({ cls := .type "re.Pattern", data := .fields #[.str pat tp, .int 32 tq, rawInt 0, .none, .none, .ref tu, rawInt 0] } : Obj)) ∈ objs)
    (mt : (tu, ({ cls := .type "tuple", data := .seq (reCode.toList.map fun w : Nat => rawInt w).toArray } : Obj)) ∈ objs)
    (h1 : ∀ h : Heap, h.get? ad1 = some o1 → h.SetOf (intKind l.prog w) ad1 (fun k' => (firstMet (fun i => (b1Ints ++ span 65024 16).getD i 0) (b1Ints.length + 16)).any (· == k')) (firstMet (fun i => (b1Ints ++ span 65024 16).getD i 0) (b1Ints.length + 16)).length)
    (h3 : ∀ h : Heap, h.get? ad3 = some o3 → h.DictOf (intKind l.prog w) ad3 kvs) (hv : Vals kvs t)
    {d1 d3 df dl : DefRec} (e1 : IsB1 d1) (e3 : IsB3 d3) (ef : IsFix df) (i1 : d1 ∈ done) (i3 : d3 ∈ done) (iff : df ∈ done) (il : dl ∈ done) (g1 : fineDef d1 = true ∧ BindOk d1) (g3 : fineDef d3 = true ∧ BindOk d3) (gf : fineDef df = true ∧ BindOk df)
    (hds : ∀ d ∈ ds, d ∈ done ∧ fineDef d = true ∧ BindOk d) (hlen : ds.length ≤ 100)
    (hln : dl.name = l.name) (hth : l.prog.theDef l.name = some (dl.params, dl.body, dl.scope)) (hs : simpleDef dl = true)
    {F : List D → Option D} (hF : (tabG (tab0 t) ds).lookup l.name = some F) (hlaw : ∀ zs : List Int, zs.length ≤ 63 → F [.list (zs.map .int)] = some (.bool true)) : Final l w s₀ s := by
  have hb : s.heap.Ns builtinsNs (s₀.heap.nsMap builtinsNs) := O.b.at fun o => T.keep _ o (by decide)
  have hnl : s.heap.NoLimit := Heap.NoLimit.at O.nolimit fun o => T.keep _ o (by decide)
  let NS : List Str := done.map (·.name)
  have hNS : ∀ d ∈ done, d.name ∈ NS := fun d hd => List.mem_map.mpr ⟨d, hd, rfl⟩
  have G₀ : GOk mg (s₀.heap.nsMap builtinsNs) (allFns s.heap NS) s.heap := ⟨T.main.g, hb, hnl, fun x hx => of_allFns hx⟩
  have hbt : ∀ x ∈ (["len", "ord", "chr", "sum", "sorted", "range"] : List Str), mg x = none ∧ s₀.heap.nsMap builtinsNs x = bootBuiltins x := by
    intro x hx
    refine ⟨?_, O.boot x ?_⟩
    · rw [T.names x (hboot x hx)]
      refine O.names x ?_ ?_
      · revert x; decide +kernel
      · revert x; decide +kernel
    · revert x; decide +kernel
  have W0 : World0 l.prog w mg (s₀.heap.nsMap builtinsNs) (allFns s.heap NS) [] 0 := ⟨fun x F e => (nomatch e), hbt⟩
  have dn : ∀ d ∈ done, s.heap.HasFn mg Pl d := T.fn
  obtain ⟨n1, a1, c1, p1, p2, p3, p4, p5, p6, b1⟩ := e1
  obtain ⟨n3, a3, c3, q1, q2, q3, q4, q5, q6, q7, q8, q9, q10, q11, q12, q13, q14, q15, q16, q17, q18, k, l1, l2, b3⟩ := e3
  obtain ⟨nf, af, cf, r1, r2, r3, r4, r5, r6, lf, bf⟩ := ef
  obtain ⟨x1, y1, fd1, hm1, hx1, hd1, F1⟩ := funIs_of (ns := NS) (hNS d1 i1) (dn d1 i1) g1.1 g1.2
  obtain ⟨x3, y3, fd3, hm3, hx3, hd3, F3⟩ := funIs_of (ns := NS) (hNS d3 i3) (dn d3 i3) g3.1 g3.2
  obtain ⟨xf, yf, fdf, hmf, hxf, hdf, Ff⟩ := funIs_of (ns := NS) (hNS df iff) (dn df iff) gf.1 gf.2
  rw [a1, c1, b1] at F1
  rw [a3, c3, b3] at F3
  rw [af, cf, bf] at Ff
  rw [n1] at hm1 hx1
  rw [n3] at hm3 hx3
  rw [nf] at hmf hxf
  have ob : ∀ {a : Addr} {o : Obj}, (a, o) ∈ objs → s.heap.get? a = some o ∧ Pl < a := fun h => T.obj _ h
  have inAll : ∀ {a : Addr} {o : Obj}, (a, o) ∈ objs → (dl.name, a, o) ∈ allFns s.heap NS := fun h => mem_allFns (hNS dl il) (ob h).1
  have ok1 : FunOk l.prog w mg (s₀.heap.nsMap builtinsNs) (allFns s.heap NS) 1 (.ref x1) inB1 := inB1_ok W0 F1 (T.vals _ v1) (inAll m1) h1 b1_set_is
  have hne : (ad3 == sysModules) = false := beq_eq_false_iff_ne.mpr fun q => by
    have h4 := (ob m3).2
    have h5 := T.main.low.2
    rw [q] at h4
    have h6 : (sysModules : Nat) < mainGlobals := by decide
    exact absurd (Nat.lt_trans h4 (Nat.lt_trans h6 h5)) (Nat.lt_irrefl _)
  have ok3 : FunOk l.prog w mg (s₀.heap.nsMap builtinsNs) (allFns s.heap NS) 1 (.ref x3) (map3 t) := map3_ok W0 l1 l2 F3 (T.vals _ v3) (inAll m3) h3 hv hne
  have okf : FunOk l.prog w mg (s₀.heap.nsMap builtinsNs) (allFns s.heap NS) 1 (.ref xf) fixE := fixE_ok W0 lf Ff (T.vals _ vp) (T.vals _ vc) fun h G => ⟨⟨_, _, G.fn _ (inAll mp)⟩, G.fn _ (inAll mt)⟩
  have W1 : World0 l.prog w mg (s₀.heap.nsMap builtinsNs) (allFns s.heap NS) (tab0 t) 1 :=
    World0.cons (World0.cons (World0.cons (W0.up (Nat.zero_le 1)) hmf hxf hdf okf) hm3 hx3 hd3 ok3) hm1 hx1 hd1 ok1
  have W2 := world_of (Pl := Pl) ds W1 fun d hd => ⟨hNS d (hds d hd).1, dn d (hds d hd).1, (hds d hd).2.1, (hds d hd).2.2⟩
  obtain ⟨a, o, fd, k1, k2, k3, k4⟩ := W2.fn _ _ hF
  refine ⟨mg, ns, .ref a, ⟨T.main.g, T.keep, T.gens.trans O.gens, T.os, T.names, ?_, hown, hsre, hlaid⟩, ?_, k1, T.toks, ?_⟩
  · obtain ⟨bm, ob, j1, _, _, _, j5, j6, j7, _⟩ := T.main.bmod
    exact ⟨bm, ob, j1, j5, j6, j7⟩
  · obtain ⟨a', o', pm, code, doc, j1, j2, j3, _⟩ := dn dl il
    simp only [simpleDef, Bool.and_eq_true, List.isEmpty_iff] at hs
    refine ⟨a', o', _, dl.params, dl.body, dl.scope, (PySem.Claim2Try.globalOf_of_ns T.main.g _).trans (hln ▸ j1), j2, j3, hth, hln, hln, rfl, rfl, rfl, rfl, rfl, rfl, .inl ⟨hs.1.1, rfl⟩, [], ?_, .inl ⟨rfl, rfl⟩⟩
    rw [hs.1.2, hs.2]
    rfl
  · intro zs vs' s₁ Q E hz g ht hr hQ
    refine k4 callerA E s₁ (fun _ => False) [.list (zs.map .int)] vs' (.bool true) Q ⟨rfl, ?_, ?_⟩ (G₀.grow g) (fun _ x => x.elim) ht hr (hlaw zs hz) fun v s' g' r => ?_
    · show 1 + claimMargin + (1 + ds.length) < 1000
      have : claimMargin = 300 := rfl
      omega
    · show 4 + 3 * (1 + ds.length) + 41 < 9900
      omega
    · unfold Rep at r
      subst r
      exact hQ s' g'
end
end Mine
end
section
open PySem PySem.W PyProof.Rows
set_option Elab.async false
set_option maxRecDepth 100000
namespace Mine
noncomputable def special : List Str := [Str.ofString "in_table_b1", Str.ofString "map_table_b3", Str.ofString "_fix_eols"]
noncomputable def plainDefs (p : Program) : List DefRec := (PySem.defsOf p).filter fun d => !special.contains d.name
noncomputable def theTable (p : Program) : List (Int × Str) := (p.main.body.findSome? fun st => match st with
  | .Assign [.Name _ _] (.Dict ks vs _) _ => dictLit ks vs
  | _ => none).getD []
noncomputable def theTab (p : Program) : Tab := tabG (tab0 (theTable p)) (plainDefs p)
noncomputable def lawOf (p : Program) : Option (List D → Option D) := (theTab p).lookup (Str.ofString "law")
theorem len1 {α : Type} {l : List α} (h : l.length = 1) : ∃ a, l = [a] := by
  cases l with
  | nil => exact nomatch h
  | cons a r => exact ⟨a, by rw [List.eq_nil_of_length_eq_zero (Nat.succ.inj h)]⟩
theorem len2 {α : Type} {l : List α} (h : l.length = 2) : ∃ a b, l = [a, b] := by
  cases l with
  | nil => exact nomatch h
  | cons a r => obtain ⟨b, rfl⟩ := len1 (Nat.succ.inj h); exact ⟨a, b, rfl⟩
theorem len3 {α : Type} {l : List α} (h : l.length = 3) : ∃ a b c, l = [a, b, c] := by
  cases l with
  | nil => exact nomatch h
  | cons a r => obtain ⟨b, c, rfl⟩ := len2 (Nat.succ.inj h); exact ⟨a, b, c, rfl⟩
noncomputable def dictOf : Stmt → Option (Str × List (Option Expr) × List Expr)
  | .Assign ts v _ => (match ts with
    | t :: [] => (match t with
      | .Name y _ => (match v with
        | .Dict ks vs _ => some (y, ks, vs)
        | _ => none)
      | _ => none)
    | _ => none)
  | _ => none
theorem dictOf_is {st : Stmt} {y : Str} {ks : List (Option Expr)} {vs : List Expr} (h : dictOf st = some (y, ks, vs)) : ∃ x0 p q, st = .Assign [.Name y x0] (.Dict ks vs q) p := by
  cases st with
  | Assign ts v p =>
    cases ts with
    | nil => exact nomatch h
    | cons t ts =>
      cases ts with
      | cons _ _ => exact nomatch h
      | nil =>
        cases t with
        | Name z x0 =>
          cases v with
          | Dict ks' vs' q => cases h; exact ⟨x0, p, q, rfl⟩
          | _ => exact nomatch h
        | _ => exact nomatch h
  | _ => exact nomatch h
theorem dict_stmt {st : Stmt} {y : Str} {t : List (Int × Str)} (h : ((dictOf st).map (·.1)) = some y) (ht : (dictOf st).bind (fun d => dictLit d.2.1 d.2.2) = some t) : ∃ x0 p q ks vs, st = .Assign [.Name y x0] (.Dict ks vs q) p ∧ dictLit ks vs = some t := by
  cases e : dictOf st with
  | none => rw [e] at h; exact nomatch h
  | some d =>
    obtain ⟨y', ks, vs⟩ := d
    rw [e] at h ht
    cases h
    obtain ⟨x0, p, q, hs⟩ := dictOf_is e
    exact ⟨x0, p, q, ks, vs, hs, ht⟩
theorem ne_of {vs : List (Str × Value)} {x : Str} (h : (vs.all fun p => !(p.1 == x)) = true) : ∀ p ∈ vs, p.1 ≠ x := fun p hp e => by
  have := List.all_eq_true.mp h p hp
  rw [e] at this
  simp at this
theorem ne_of' {ds : List DefRec} {x : Str} (h : (ds.all fun p => !(p.name == x)) = true) : ∀ p ∈ ds, p.name ≠ x := fun p hp e => by
  have := List.all_eq_true.mp h p hp
  rw [e] at this
  simp at this
theorem pos_of {l : List (Pos × Addr)} {a : Pos} (h : (l.all fun q => !(q.1.line == a.line && q.1.col == a.col)) = true) : ∀ q ∈ l, ¬ (q.1.line = a.line ∧ q.1.col = a.col) := fun q hq e => by
  have := List.all_eq_true.mp h q hq
  rw [e.1, e.2] at this
  simp at this
theorem nes_of {ds : List DefRec} {vs : List (Str × Value)} (h : (ds.all fun d => vs.all fun p => !(p.1 == d.name)) = true) : ∀ d ∈ ds, ∀ p ∈ vs, p.1 ≠ d.name := fun d hd => ne_of (List.all_eq_true.mp h d hd)
theorem poss_of {ds : List DefRec} {l : List (Pos × Addr)} (h : (ds.all fun d => l.all fun q => !(q.1.line == d.pos.line && q.1.col == d.pos.col)) = true) : ∀ d ∈ ds, ∀ q ∈ l, ¬ (q.1.line = d.pos.line ∧ q.1.col = d.pos.col) := fun d hd => pos_of (List.all_eq_true.mp h d hd)
theorem ness_of {ds es : List DefRec} (h : (ds.all fun d => es.all fun p => !(p.name == d.name)) = true) : ∀ d ∈ ds, ∀ e ∈ es, e.name ≠ d.name := fun d hd => ne_of' (List.all_eq_true.mp h d hd)
theorem sub_of {as bs : List Str} (h : (as.all bs.contains) = true) : ∀ x ∈ as, x ∈ bs := fun x hx => List.contains_iff_mem.mp (List.all_eq_true.mp h x hx)
theorem out_of {as bs : List Str} (h : (as.all fun x => !bs.contains x) = true) : ∀ x ∈ as, x ∉ bs := fun x hx q => by
  have := List.all_eq_true.mp h x hx
  rw [List.contains_iff_mem.mpr q] at this
  cases this
end Mine
end
section
open PySem PySem.W PyProof.Rows PySem.Challenge
set_option Elab.async false
set_option maxRecDepth 100000
namespace Mine
namespace Row3
noncomputable def dd (i : Nat) : DefRec := (PySem.defsOf pw_wn0090_03).getD i ⟨default, default, [], default, default⟩
noncomputable def ss (i : Nat) : Stmt := pw_wn0090_03.main.body.getD i (.Pass default)
theorem body_eq : behindTheImports pw_wn0090_03 = ss 1 :: ss 2 :: ss 3 :: (dd 0).stmt :: ss 5 :: ss 6 :: (dd 1).stmt :: ss 8 :: (dd 2).stmt :: (dd 3).stmt :: ss 11 :: (((PySem.defsOf pw_wn0090_03).drop 4).map DefRec.stmt ++ []) := by kernel_rfl
theorem s1 : ∃ p q r k, ss 1 = .Assign [.Name (Str.ofString "__name__") p] (.Constant (.str (Str.ofString "cpy313.smtplib")) k q) r := ⟨_, _, _, _, rfl⟩
theorem s2 : ∃ x0 p pat k1 k2 k3 k4 k5 p0 p1 p2 p3 p4 p5 p6 p7 p8 p9 es is, ss 2 = .Assign [.Name (Str.ofString "_twin_re_1") x0] (.Call (.Attribute (.Name (Str.ofString "_sre") p1) (Str.ofString "compile") p0) [.Constant (.str pat) k1 p2, .Constant (.int 32) k2 p3, .List es p4, .Constant (.int 0) k3 p5, .Dict [] [] p6, .Tuple [.Constant .none k4 p7] k5 p8] [] p9) p ∧
    (p0.endLine == p9.line) = true ∧ es.mapM intConst = some is ∧ is = reCode.toList.map fun w : Nat => (w : Int) :=
  ⟨_, _, _, _, _, _, _, _, _, _, _, _, _, _, _, _, _, _, _, _, rfl, rfl, rfl, by decide +kernel⟩
theorem s3 : ∃ p q r k x, ss 3 = .Assign [.Name (Str.ofString "CRLF") p] (.Constant (.str x) k q) r ∧ x = toStr [13, 10] := ⟨_, _, _, _, _, rfl, by decide +kernel⟩
theorem s5 : ∃ p q r k, ss 5 = .Assign [.Name (Str.ofString "__name__") p] (.Constant (.str (Str.ofString "cpy313.stringprep")) k q) r := ⟨_, _, _, _, rfl⟩
theorem s6 : ∃ x0 p p1 p2 p3 p4 p5 p6 p7 p8 p9 p10 k1 k2 es, ss 6 = .Assign [.Name (Str.ofString "b1_set") x0] (.Call (.Name (Str.ofString "set") p1) [.BinOp (.List es p2) .Add (.Call (.Name (Str.ofString "list") p3) [.Call (.Name (Str.ofString "range") p4) [.Constant (.int 65024) k1 p5, .Constant (.int 65040) k2 p6] [] p7] [] p8) p9] [] p10) p ∧ es.mapM intConst = some b1Ints :=
  ⟨_, _, _, _, _, _, _, _, _, _, _, _, _, _, _, rfl, rfl⟩
theorem s8 : ∃ x0 p q ks vs, ss 8 = .Assign [.Name (Str.ofString "b3_exceptions") x0] (.Dict ks vs q) p ∧ dictLit ks vs = some (theTable pw_wn0090_03) := dict_stmt (by kernel_rfl) (by kernel_rfl)
theorem s11 : ∃ p q r k, ss 11 = .Assign [.Name (Str.ofString "__name__") p] (.Constant (.str (Str.ofString "law_wn0090_03")) k q) r := ⟨_, _, _, _, rfl⟩
theorem t_rising : rising (theTable pw_wn0090_03) = true := by decide +kernel
theorem t_len : (theTable pw_wn0090_03).length ≤ 10000 ∧ theTable pw_wn0090_03 ≠ [] := by
  have h : (theTable pw_wn0090_03).length = 650 := by decide +kernel
  exact ⟨by omega, fun q => by rw [q] at h; cases h⟩
theorem plain0 : (dd 0).Plain pw_wn0090_03 := ⟨fun _ => rfl, by decide +kernel, by decide +kernel, by decide +kernel, by decide +kernel⟩
theorem bind0 : BindOk (dd 0) := fun _ _ _ vs h => by
  obtain ⟨a, rfl⟩ := len1 h
  rfl
theorem plain1 : (dd 1).Plain pw_wn0090_03 := ⟨fun _ => rfl, by decide +kernel, by decide +kernel, by decide +kernel, by decide +kernel⟩
theorem bind1 : BindOk (dd 1) := fun _ _ _ vs h => by
  obtain ⟨a, rfl⟩ := len1 h
  rfl
theorem plain2 : (dd 2).Plain pw_wn0090_03 := ⟨fun _ => rfl, by decide +kernel, by decide +kernel, by decide +kernel, by decide +kernel⟩
theorem bind2 : BindOk (dd 2) := fun _ _ _ vs h => by
  obtain ⟨a, rfl⟩ := len1 h
  rfl
theorem plain3 : (dd 3).Plain pw_wn0090_03 := ⟨fun _ => rfl, by decide +kernel, by decide +kernel, by decide +kernel, by decide +kernel⟩
theorem bind3 : BindOk (dd 3) := fun _ _ _ vs h => by
  obtain ⟨a, rfl⟩ := len1 h
  rfl
theorem plain4 : (dd 4).Plain pw_wn0090_03 := ⟨fun _ => rfl, by decide +kernel, by decide +kernel, by decide +kernel, by decide +kernel⟩
theorem bind4 : BindOk (dd 4) := fun _ _ _ vs h => by
  obtain ⟨a, b, c, rfl⟩ := len3 h
  rfl
theorem plain5 : (dd 5).Plain pw_wn0090_03 := ⟨fun _ => rfl, by decide +kernel, by decide +kernel, by decide +kernel, by decide +kernel⟩
theorem bind5 : BindOk (dd 5) := fun _ _ _ vs h => by
  obtain ⟨a, rfl⟩ := len1 h
  rfl
theorem plain6 : (dd 6).Plain pw_wn0090_03 := ⟨fun _ => rfl, by decide +kernel, by decide +kernel, by decide +kernel, by decide +kernel⟩
theorem bind6 : BindOk (dd 6) := fun _ _ _ vs h => by
  obtain ⟨a, rfl⟩ := len1 h
  rfl
theorem plain7 : (dd 7).Plain pw_wn0090_03 := ⟨fun _ => rfl, by decide +kernel, by decide +kernel, by decide +kernel, by decide +kernel⟩
theorem bind7 : BindOk (dd 7) := fun _ _ _ vs h => by
  obtain ⟨a, rfl⟩ := len1 h
  rfl
theorem plain8 : (dd 8).Plain pw_wn0090_03 := ⟨fun _ => rfl, by decide +kernel, by decide +kernel, by decide +kernel, by decide +kernel⟩
theorem bind8 : BindOk (dd 8) := fun _ _ _ vs h => by
  obtain ⟨a, rfl⟩ := len1 h
  rfl
theorem plain9 : (dd 9).Plain pw_wn0090_03 := ⟨fun _ => rfl, by decide +kernel, by decide +kernel, by decide +kernel, by decide +kernel⟩
theorem bind9 : BindOk (dd 9) := fun _ _ _ vs h => by
  obtain ⟨a, rfl⟩ := len1 h
  rfl
theorem plain10 : (dd 10).Plain pw_wn0090_03 := ⟨fun _ => rfl, by decide +kernel, by decide +kernel, by decide +kernel, by decide +kernel⟩
theorem bind10 : BindOk (dd 10) := fun _ _ _ vs h => by
  obtain ⟨a, rfl⟩ := len1 h
  rfl
theorem plain11 : (dd 11).Plain pw_wn0090_03 := ⟨fun _ => rfl, by decide +kernel, by decide +kernel, by decide +kernel, by decide +kernel⟩
theorem bind11 : BindOk (dd 11) := fun _ _ _ vs h => by
  obtain ⟨a, rfl⟩ := len1 h
  rfl
theorem plain12 : (dd 12).Plain pw_wn0090_03 := ⟨fun _ => rfl, by decide +kernel, by decide +kernel, by decide +kernel, by decide +kernel⟩
theorem bind12 : BindOk (dd 12) := fun _ _ _ vs h => by
  obtain ⟨a, rfl⟩ := len1 h
  rfl
theorem plain13 : (dd 13).Plain pw_wn0090_03 := ⟨fun _ => rfl, by decide +kernel, by decide +kernel, by decide +kernel, by decide +kernel⟩
theorem bind13 : BindOk (dd 13) := fun _ _ _ vs h => by
  obtain ⟨a, rfl⟩ := len1 h
  rfl
theorem plain14 : (dd 14).Plain pw_wn0090_03 := ⟨fun _ => rfl, by decide +kernel, by decide +kernel, by decide +kernel, by decide +kernel⟩
theorem bind14 : BindOk (dd 14) := fun _ _ _ vs h => by
  obtain ⟨a, rfl⟩ := len1 h
  rfl
theorem defs_eq : PySem.defsOf pw_wn0090_03 = [dd 0, dd 1, dd 2, dd 3, dd 4, dd 5, dd 6, dd 7, dd 8, dd 9, dd 10, dd 11, dd 12, dd 13, dd 14] := by kernel_rfl
theorem all_plain : ∀ d ∈ PySem.defsOf pw_wn0090_03, d.Plain pw_wn0090_03 := by
  rw [defs_eq]
  simp only [List.mem_cons, List.not_mem_nil, or_false]
  rintro d (rfl | rfl | rfl | rfl | rfl | rfl | rfl | rfl | rfl | rfl | rfl | rfl | rfl | rfl | rfl)
  · exact plain0
  · exact plain1
  · exact plain2
  · exact plain3
  · exact plain4
  · exact plain5
  · exact plain6
  · exact plain7
  · exact plain8
  · exact plain9
  · exact plain10
  · exact plain11
  · exact plain12
  · exact plain13
  · exact plain14
theorem all_bind : ∀ d ∈ PySem.defsOf pw_wn0090_03, BindOk d := by
  rw [defs_eq]
  simp only [List.mem_cons, List.not_mem_nil, or_false]
  rintro d (rfl | rfl | rfl | rfl | rfl | rfl | rfl | rfl | rfl | rfl | rfl | rfl | rfl | rfl | rfl)
  · exact bind0
  · exact bind1
  · exact bind2
  · exact bind3
  · exact bind4
  · exact bind5
  · exact bind6
  · exact bind7
  · exact bind8
  · exact bind9
  · exact bind10
  · exact bind11
  · exact bind12
  · exact bind13
  · exact bind14
theorem all_fine : ∀ d ∈ PySem.defsOf pw_wn0090_03, fineDef d = true := List.all_eq_true.mp (by decide +kernel)
theorem isB1 : IsB1 (dd 1) := ⟨by rfl, by rfl, by rfl, _, _, _, _, _, _, rfl⟩
theorem isB3 : IsB3 (dd 2) := ⟨by rfl, by rfl, by rfl, _, _, _, _, _, _, _, _, _, _, _, _, _, _, _, _, _, _, _, rfl, rfl, rfl⟩
theorem isFix : IsFix (dd 0) := ⟨by rfl, by rfl, by rfl, _, _, _, _, _, _, rfl, rfl⟩
theorem body {F : List D → Option D} (hF : lawOf pw_wn0090_03 = some F) (hlaw : ∀ zs : List Int, zs.length ≤ 63 → F [.list (zs.map .int)] = some (.bool true)) (w : World) (s₀ : Shared) (A : Around) (c Pl Fr : Addr) (s : Shared) (O : Opn (importedModules pw_wn0090_03.main.body) s₀) (hh : A.handled = none)
    (T0 : TopSt s₀ (s₀.heap.nsMap mainGlobals) c Pl [] [] [] [] [] (s₀.heap.nsMap mainGlobals) s) :
    wpAny (model pw_wn0090_03 w) A (execs (behindTheImports pw_wn0090_03) (mainEnv pw_wn0090_03 c Fr)) (fun _ s' => Final rw_wn0090_03 w s₀ s') (fun _ _ => False) s := by
  have hmod : pw_wn0090_03.main.scope.kind = .module := rfl
  rw [body_eq]
  have nm : ∀ {done lp ns vs objs mg s} {x : Str}, TopSt s₀ (s₀.heap.nsMap mainGlobals) c Pl done lp ns vs objs mg s → x ∉ ns → x ∉ startupNames → x ≠ "_sre" → mg x = none := fun T h1 h2 h3 => (T.names _ h1).trans (O.names _ h2 h3)
  have bt : ∀ {x : Str}, x ≠ "__name__" → s₀.heap.nsMap builtinsNs x = bootBuiltins x := fun h => O.boot _ h
  obtain ⟨Mo, D, md, hsre, hM, hne1, hne2, hmd⟩ := O.sre
  obtain ⟨_, _, _, _, e1⟩ := s1
  rw [e1]
  refine T0.assignStr (by decide +kernel) hmod (by decide +kernel) (ne_of' (by rfl)) (ne_of (by rfl)) fun _ z1 T1 => ?_
  replace T1 := T1.drop (vs' := _) (fun _ h => List.mem_cons_of_mem _ h)
  obtain ⟨_, _, pat, _, _, _, _, _, _, _, _, _, _, _, _, _, _, _, es8, is8, e2, l8, h8, i8⟩ := s2
  rw [e2]
  refine T1.assignPat (by decide +kernel) hmod (by decide +kernel) (ne_of' (by rfl)) (ne_of (by rfl)) O.sys hM ⟨hne1, hne2⟩ hmd ((T1.names _ (by decide +kernel)).trans hsre) l8 h8 (by rw [i8]; decide +kernel) (by rw [i8]; decide +kernel) (by rw [i8]; decide +kernel) fun P tu tp tq z2 T2 => ?_
  obtain ⟨_, _, _, _, _, e3, x3⟩ := s3
  rw [e3, x3]
  refine T2.assignStr (by decide +kernel) hmod (by decide +kernel) (ne_of' (by rfl)) (ne_of (by rfl)) fun tc z3 T3 => ?_
  refine T3.def plain0 hmod (pos_of (by rfl)) (ne_of' (by rfl)) (ne_of (by rfl)) fun z4 _ _ T4 => ?_
  obtain ⟨_, _, _, _, e5⟩ := s5
  rw [e5]
  refine T4.assignStr (by decide +kernel) hmod (by decide +kernel) (ne_of' (by rfl)) (ne_of (by rfl)) fun _ z5 T5 => ?_
  replace T5 := T5.drop (vs' := _) (fun _ h => List.mem_cons_of_mem _ h)
  obtain ⟨_, _, _, _, _, _, _, _, _, _, _, _, _, _, _, e6, hes⟩ := s6
  rw [e6]
  have u1 := nm (x := Str.ofString "set") T5 (by decide +kernel) (by decide +kernel) (by decide +kernel)
  have u2 := nm (x := Str.ofString "list") T5 (by decide +kernel) (by decide +kernel) (by decide +kernel)
  have u3 := nm (x := Str.ofString "range") T5 (by decide +kernel) (by decide +kernel) (by decide +kernel)
  refine T5.assignSet (by decide +kernel) hmod (by decide +kernel) (ne_of' (by rfl)) (ne_of (by rfl)) hh (O.b.at fun o => T5.keep _ o (by decide))
    u1 ((bt (by decide +kernel)).trans (by decide +kernel)) u2 ((bt (by decide +kernel)).trans (by decide +kernel)) u3 ((bt (by decide +kernel)).trans (by decide +kernel))
    hes (by decide) (by decide) (by decide) (by decide) (by decide) (n := 16) (by decide) (by decide) (by decide) fun ad1 o1 z6 h1 T6 => ?_
  refine T6.def plain1 hmod (pos_of (by rfl)) (ne_of' (by rfl)) (ne_of (by rfl)) fun z7 _ _ T7 => ?_
  obtain ⟨_, _, _, ks, vals, e8, hdict⟩ := s8
  rw [e8]
  refine T7.assignDict (by decide +kernel) hmod (by decide +kernel) (ne_of' (by rfl)) (ne_of (by rfl)) O.sys hdict t_rising t_len.1 t_len.2 fun ad3 o3 kvs z8 hv h3 T8 => ?_
  refine T8.def plain2 hmod (pos_of (by rfl)) (ne_of' (by rfl)) (ne_of (by rfl)) fun z9 _ _ T9 => ?_
  refine T9.def plain3 hmod (pos_of (by rfl)) (ne_of' (by rfl)) (ne_of (by rfl)) fun z10 _ _ T10 => ?_
  obtain ⟨_, _, _, _, e11⟩ := s11
  rw [e11]
  refine T10.assignStr (by decide +kernel) hmod (by decide +kernel) (ne_of' (by rfl)) (ne_of (by rfl)) fun _ z11 T11 => ?_
  replace T11 := T11.drop (vs' := _) (fun _ h => List.mem_cons_of_mem _ h)
  refine TopSt.defs hmod _ T11 (fun d hd => all_plain d (List.mem_of_mem_drop hd)) ?_ ?_ ?_ ?_ ?_ fun sl mgl lp Tl _ => ?_
  · exact nes_of (by rfl)
  · decide +kernel
  · exact ness_of (by rfl)
  · decide +kernel
  · exact poss_of (by rfl)
  refine wpAny_execs_nil ?_
  have mems : ∀ d ∈ plainDefs pw_wn0090_03, d ∈ (List.drop 4 (PySem.defsOf pw_wn0090_03)).reverse ++ [dd 3, dd 2, dd 1, dd 0] := by
    intro d hd
    have h1 : d ∈ PySem.defsOf pw_wn0090_03 := (List.mem_filter.mp hd).1
    have h2 : PySem.defsOf pw_wn0090_03 = [dd 0, dd 1, dd 2, dd 3] ++ List.drop 4 (PySem.defsOf pw_wn0090_03) := by kernel_rfl
    rw [h2] at h1
    rcases List.mem_append.mp h1 with h | h
    · refine List.mem_append_right _ ?_
      simp only [List.mem_cons, List.not_mem_nil, or_false] at h ⊢
      rcases h with h | h | h | h <;> simp [h]
    · exact List.mem_append_left _ (List.mem_reverse.mpr h)
  have ind : ∀ d ∈ plainDefs pw_wn0090_03, d ∈ PySem.defsOf pw_wn0090_03 := fun d hd => (List.mem_filter.mp hd).1
  exact final_of (l := rw_wn0090_03) (ds := plainDefs pw_wn0090_03) (d1 := dd 1) (d3 := dd 2) (df := dd 0) (dl := dd 14) O Tl (sub_of (by decide +kernel)) (List.contains_iff_mem.mp (by decide +kernel)) (out_of (by decide +kernel)) (out_of (by decide +kernel)) (ad1 := ad1) (ad3 := ad3) (P := P) (tu := tu) (o1 := o1) (o3 := o3) (tc := tc) (tp := tp) (tq := tq) (pat := pat)
    (by simp) (by simp) (by simp) (by simp) (by simp) (by simp) (by simp) (by rw [i8]; simp) h1 h3 hv isB1 isB3 isFix (by simp) (by simp) (by simp) (List.mem_append_left _ (List.mem_reverse.mpr (by rw [defs_eq]; simp)))
    ⟨all_fine _ (by rw [defs_eq]; simp), bind1⟩ ⟨all_fine _ (by rw [defs_eq]; simp), bind2⟩ ⟨all_fine _ (by rw [defs_eq]; simp), bind0⟩ (fun d hd => ⟨mems d hd, all_fine d (ind d hd), all_bind d (ind d hd)⟩) (by decide +kernel) (by decide +kernel) (by kernel_rfl) (by decide +kernel) hF hlaw
theorem said : rw_wn0090_03.wellSaid = true := by decide +kernel
theorem rowSaid : rw_wn0090_03.row.wellSaid = true := by
  have h := said
  unfold OpenLaw.wellSaid at h
  simp only [Bool.and_eq_true] at h
  exact h.1.1.1.1.1.1.1.1.1.1.1.1.1.1.1.1.1.1
theorem promised : rw_wn0090_03.row.toRowW.promised := ⟨[.list []], by decide +kernel, by decide +kernel⟩
theorem bare : rw_wn0090_03.prog.bare := ⟨rfl, rfl, rfl, rfl, rfl, by decide +kernel⟩
theorem opens : opensWell rw_wn0090_03.prog = true := by decide +kernel
theorem hopen (w : World) : (fencedOpening treeTable pw_wn0090_03 w 2000).map (fun s => (openFacts (importedModules pw_wn0090_03.main.body) s, s.heap.bltView)) = some (true, bltViewBooted) := by kernel_rfl
theorem holds {F : List D → Option D} (hF : lawOf pw_wn0090_03 = some F) (hlaw : ∀ zs : List Int, zs.length ≤ 63 → F [.list (zs.map .int)] = some (.bool true)) : rw_wn0090_03.Holds :=
  law_holds said rowSaid rfl rfl rfl bare opens promised (by decide +kernel) (by decide +kernel) hopen (fun w s₀ A c Pl Fr s O hh T => body hF hlaw w s₀ A c Pl Fr s O hh T)
end Row3
end Mine
end
section
open PySem PySem.W PyProof.Rows
set_option Elab.async false
set_option maxRecDepth 10000
namespace Mine
noncomputable abbrev Tb := List (Str × (List D → Option D))
section
variable {G : Tb} {n m : Fu} {sc : List (Str × NameKind)} {ρ ρ' : PEnv} {o o1 o2 : Bool} {a b d : D} {p q : Pos} {k : Nat}
theorem E_const {c : Const} (h : pconst c = some d) : pe G (.s n) sc (.Constant c k p) ρ = some (true, d) := by
  show (pconst c).map _ = _
  rw [h]; rfl
theorem E_name {x : Str} (h : ρ.lookup x = some (o, d)) : pe G (.s n) sc (.Name x p) ρ = some (!o, d) := by
  show (ρ.lookup x).map _ = _
  rw [h]; rfl
theorem E_neg {x : Expr} {i : Int} (h : pe G n sc x ρ = some (o, .int i)) : pe G (.s n) sc (.UnaryOp .USub x p) ρ = some (true, .int (-i)) := by
  show (pe G n sc x ρ).bind _ = _
  rw [h]; rfl
theorem E_bin {l r : Expr} {op : Operator} (hl : pe G n sc l ρ = some (o1, a)) (hr : pe G n sc r ρ = some (o2, b)) (h : pbin op a b = some d) : pe G (.s n) sc (.BinOp l op r p) ρ = some (true, d) := by
  show (pe G n sc l ρ).bind _ = _
  rw [hl]
  show (pe G n sc r ρ).bind _ = _
  rw [hr]
  show (pbin op a b).map _ = _
  rw [h]; rfl
theorem E_cmp {l r : Expr} {op : CmpOp} {c : Bool} (hl : pe G n sc l ρ = some (o1, a)) (hr : pe G n sc r ρ = some (o2, b)) (hm : behindInMarks op r = false) (ho' : (!(op == .In || op == .NotIn) || o1) = true) (h : pcmp op a b = some c) :
    pe G (.s n) sc (.Compare l [op] [r] p) ρ = some (true, .bool c) := by
  have ho : (o1 || !(op == .In || op == .NotIn)) = true := by rw [Bool.or_comm]; exact ho'
  show (if behindInMarks op r = true then none else Option.map _ ((pe G n sc l ρ).bind _)) = _
  rw [hm, if_neg Bool.false_ne_true, hl]
  show Option.map _ ((pe G n sc r ρ).bind _) = _
  rw [hr]
  show Option.map _ (if (o1 || !(op == .In || op == .NotIn)) = true then pcmp op a b else none) = _
  rw [if_pos ho, h]; rfl
theorem E_if {t x y : Expr} {c : Bool} (ht : pt (pe G n sc) n t ρ = some c) (h : (if c = true then pe G n sc x ρ else pe G n sc y ρ) = some (o, d)) : pe G (.s n) sc (.IfExp t x y p) ρ = some (o, d) := by
  show (pt (pe G n sc) n t ρ).bind _ = _
  rw [ht]
  show (if c = true then _ else _) = _
  exact h
theorem E_callG {f : Str} {F : List D → Option D} {args : List Expr} {ds : List D} (hk : sc.lookup f = some .globalImplicit) (hf : G.lookup f = some F) (ha : pclean (pe G n sc) args ρ = some ds) (h : F ds = some d) :
    pe G (.s n) sc (.Call (.Name f p) args [] q) ρ = some (true, d) := by
  show (if sc.lookup f = some .globalImplicit then _ else none) = _
  rw [if_pos hk, hf]
  show (pclean (pe G n sc) args ρ).bind _ = _
  rw [ha]
  show (F ds).map _ = _
  rw [h]; rfl
theorem E_callB {f : Str} {args : List Expr} {ds : List D} (hk : sc.lookup f = some .globalImplicit) (hf : G.lookup f = none) (ha : pvals (pe G n sc) args ρ = some ds) (h : pbuiltin f ds = some d) :
    pe G (.s n) sc (.Call (.Name f p) args [] q) ρ = some (true, d) := by
  show (if sc.lookup f = some .globalImplicit then _ else none) = _
  rw [if_pos hk, hf]
  show (pvals (pe G n sc) args ρ).bind _ = _
  rw [ha]
  show (pbuiltin f ds).map _ = _
  rw [h]; rfl
theorem E_meth1 {x y : Expr} {mt : Str} (hc : (okBase x && p.endLine == q.line) = true) (hx : pe G n sc x ρ = some (o, a)) {ds : List D} (hy : pvals (pe G n sc) [y] ρ = some ds) (h : pmeth mt a ds = some d) : pe G (.s n) sc (.Call (.Attribute x mt p) [y] [] q) ρ = some (true, d) := by
  show (if (okBase x && p.endLine == q.line) = true then (pe G n sc x ρ).bind fun a => (pvals (pe G n sc) [y] ρ).bind fun ds => (pmeth mt a.2 ds).map fun d => (true, d) else none) = _
  rw [if_pos hc, hx]
  show (pvals (pe G n sc) [y] ρ).bind _ = _
  rw [hy]
  show (pmeth mt a ds).map _ = _
  rw [h]; rfl
noncomputable def notSlice (e : Expr) : Bool := (sliceOf e).isNone
theorem none_of {α : Type} {o : Option α} (h : o.isNone = true) : o = none := by
  cases o with
  | none => rfl
  | some _ => exact nomatch h
theorem E_sub {v i : Expr} (hi : notSlice i = true) (hv : pe G n sc v ρ = some (o1, a)) (hb : pe G n sc i ρ = some (o2, b)) (h : pidx a b = some d) : pe G (.s n) sc (.Subscript v i p) ρ = some (true, d) := by
  show (match sliceOf i with
    | some sl => _
    | none => (pe G n sc v ρ).bind fun a => (pe G n sc i ρ).bind fun b => (pidx a.2 b.2).map fun d => (true, d)) = _
  rw [none_of hi]
  show (pe G n sc v ρ).bind _ = _
  rw [hv]
  show (pe G n sc i ρ).bind _ = _
  rw [hb]
  show (pidx a b).map _ = _
  rw [h]; rfl
theorem E_slice {v : Expr} {lo hi : Option Expr} {l h' : Option Int} {sp : Pos} (hv : pe G n sc v ρ = some (o, a)) (hl : pbound (pe G n sc) lo ρ = some l) (hh : pbound (pe G n sc) hi ρ = some h') (h : pslice a l h' = some d) :
    pe G (.s n) sc (.Subscript v (.Slice lo hi none sp) p) ρ = some (true, d) := by
  show (pe G n sc v ρ).bind _ = _
  rw [hv]
  show (pbound (pe G n sc) lo ρ).bind _ = _
  rw [hl]
  show (pbound (pe G n sc) hi ρ).bind _ = _
  rw [hh]
  show (pslice a l h').map _ = _
  rw [h]; rfl
theorem E_list {es : List Expr} {ds : List D} (ha : pclean (pe G n sc) es ρ = some ds) (h : ds.length ≤ 1000000) : pe G (.s n) sc (.List es p) ρ = some (true, .list ds) := by
  show (pclean (pe G n sc) es ρ).bind _ = _
  rw [ha]
  show (mkL ds).map _ = _
  unfold mkL
  rw [if_pos h]; rfl
theorem E_tup {es : List Expr} {ds : List D} (ha : pclean (pe G n sc) es ρ = some ds) (h : ds.length ≤ 1000000) : pe G (.s n) sc (.Tuple es k p) ρ = some (true, .tup ds) := by
  show (pclean (pe G n sc) es ρ).bind _ = _
  rw [ha]
  show (if ds.length ≤ 1000000 then _ else none) = _
  rw [if_pos h]
noncomputable def plainElt (e : Expr) : Bool := (replHead e).isNone
theorem E_comp {elt : Expr} {g : Comprehension} {gs : List Comprehension} {scope : Scope} {items l : List D} (he : plainElt elt = true) (hc : (compOk sc scope && (g :: gs).all okClause) = true) (hi : pit sc (pe G n sc) g.iter ρ = some items)
    (hf : pforeach (pturn scope.names (pe G n scope.names) n elt (g :: gs) (inComp scope.names ρ)) items = some l) (hl : l.length ≤ 1000000) : pe G (.s n) sc (.ListComp elt (g :: gs) scope p) ρ = some (true, .list l) := by
  show (match (replHead elt).bind fun r => (replClause (g :: gs)).map fun c => (r, c) with
    | some rc => _
    | none => (if (compOk sc scope && (g :: gs).all okClause) = true then
      (pit sc (pe G n sc) g.iter ρ).bind fun items => (pforeach (pturn scope.names (pe G n scope.names) n elt (g :: gs) (inComp scope.names ρ)) items).bind fun l => (mkL l).map fun d => (true, d)
      else none)) = _
  rw [none_of he]
  show (if (compOk sc scope && (g :: gs).all okClause) = true then _ else none) = _
  rw [if_pos hc, hi]
  show (pforeach _ items).bind _ = _
  rw [hf]
  show (mkL l).map _ = _
  unfold mkL
  rw [if_pos hl]; rfl
theorem C_nil {ev : Ev} : pclean ev [] ρ = some [] := rfl
theorem C_cons {ev : Ev} {e : Expr} {r : List Expr} {ds : List D} (hs : (match e with | .Starred .. => false | _ => true) = true) (h : ev e ρ = some (true, d)) (hr : pclean ev r ρ = some ds) : pclean ev (e :: r) ρ = some (d :: ds) := by
  have e' : pclean ev (e :: r) ρ = match ev e ρ with
      | some (true, d) => (pclean ev r ρ).map (d :: ·)
      | _ => none := by cases e <;> first | rfl | cases hs
  rw [e', h, hr]; rfl
theorem V_nil {ev : Ev} : pvals ev [] ρ = some [] := rfl
theorem V_cons {ev : Ev} {e : Expr} {r : List Expr} {ds : List D} (hs : (match e with | .Starred .. => false | _ => true) = true) (h : ev e ρ = some (o, d)) (hr : pvals ev r ρ = some ds) : pvals ev (e :: r) ρ = some (d :: ds) := by
  have e' : pvals ev (e :: r) ρ = match ev e ρ with
      | some (_, d) => (pvals ev r ρ).map (d :: ·)
      | _ => none := by cases e <;> first | rfl | cases hs
  rw [e', h, hr]; rfl
theorem Bd_none {ev : Ev} : pbound ev none ρ = some none := rfl
theorem Bd_some {ev : Ev} {e : Expr} {i : Int} (h : ev e ρ = some (o, .int i)) : pbound ev (some e) ρ = some (some i) := by
  show (match ev e ρ with | some (_, .int i) => some (some i) | _ => none) = _
  rw [h]
theorem T_not {ev : Ev} {x : Expr} {c : Bool} (h : pt ev m x ρ = some c) : pt ev (.s m) (.UnaryOp .Not x p) ρ = some (!c) := by
  show (pt ev m x ρ).map _ = _
  rw [h]; rfl
theorem T_and {ev : Ev} {vs : List Expr} {c : Bool} (h : ptests (pt ev m) false vs ρ = some c) : pt ev (.s m) (.BoolOp .And vs p) ρ = some c := h
theorem And_nil {tst : Expr → PEnv → Option Bool} : ptests tst false [] ρ = some true := rfl
theorem And_cons {tst : Expr → PEnv → Option Bool} {e : Expr} {r : List Expr} {c c' : Bool} (h : tst e ρ = some c) (hr : c = true → ptests tst false r ρ = some c') : ptests tst false (e :: r) ρ = some (c && (c' || !c)) := by
  unfold ptests
  rw [h]
  cases c with
  | false => rfl
  | true => rw [hr rfl]; cases c' <;> rfl
theorem T_cmp {ev : Ev} {l r : Expr} {op : CmpOp} {c : Bool} (hl : ev l ρ = some (o1, a)) (hr : ev r ρ = some (o2, b)) (hm : behindInMarks op r = false) (ho' : (!(op == .In || op == .NotIn) || o1) = true) (h : pcmp op a b = some c) :
    pt ev (.s m) (.Compare l [op] [r] p) ρ = some c := by
  have ho : (o1 || !(op == .In || op == .NotIn)) = true := by rw [Bool.or_comm]; exact ho'
  show (if behindInMarks op r = true then none else _) = _
  rw [hm, if_neg Bool.false_ne_true, hl]
  show (ev r ρ).bind _ = _
  rw [hr]
  show (if (o1 || !(op == .In || op == .NotIn)) = true then pcmp op a b else none) = _
  rw [if_pos ho, h]
theorem T_call {ev : Ev} {f : Expr} {as : List Expr} {ks : List Keyword} {c : Bool} (h : ev (.Call f as ks p) ρ = some (o, .bool c)) : pt ev (.s m) (.Call f as ks p) ρ = some c := by
  show (ev (.Call f as ks p) ρ).bind _ = _
  rw [h]; rfl
theorem I_range1 {ev : Ev} {args : List Expr} {i : Int} {r : Pos} (hk : sc.lookup (Str.ofString "range") = some .globalImplicit) (ha : pvals ev args ρ = some [.int i]) (hs : (small? 0 && small? i && decide (i - 0 ≤ 1000000)) = true) :
    pit sc ev (.Call (.Name (Str.ofString "range") p) args [] r) ρ = some (upto 0 (i - 0).toNat) := by
  show (if (Str.ofString "range" == "range") = true then (if sc.lookup (Str.ofString "range") = some .globalImplicit then _ else none) else none) = _
  rw [if_pos (by decide +kernel), if_pos hk, ha]
  show (if (small? 0 && small? i && decide (i - 0 ≤ 1000000)) = true then _ else none) = _
  rw [if_pos hs]
theorem I_range2 {ev : Ev} {args : List Expr} {i j : Int} {r : Pos} (hk : sc.lookup (Str.ofString "range") = some .globalImplicit) (ha : pvals ev args ρ = some [.int i, .int j]) (hs : (small? i && small? j && decide (j - i ≤ 1000000)) = true) :
    pit sc ev (.Call (.Name (Str.ofString "range") p) args [] r) ρ = some (upto i (j - i).toNat) := by
  show (if (Str.ofString "range" == "range") = true then (if sc.lookup (Str.ofString "range") = some .globalImplicit then _ else none) else none) = _
  rw [if_pos (by decide +kernel), if_pos hk, ha]
  show (if (small? i && small? j && decide (j - i ≤ 1000000)) = true then _ else none) = _
  rw [if_pos hs]
noncomputable def plainIter : Expr → Bool
  | .Call (.Name ..) .. => false
  | .Set .. => false
  | _ => true
theorem I_list {ev : Ev} {e : Expr} {l : List D} (he : plainIter e = true) (h : ev e ρ = some (true, .list l)) (hl : l.length ≤ 1000000) : pit sc ev e ρ = some l := by
  have e' : pit sc ev e ρ = match ev e ρ with
    | some (true, .list l) => if l.length ≤ 1000000 then some l else none
    | some (_, .str x) => if x.length ≤ 1000000 then some (x.map fun c => .str [c]) else none
    | _ => none := by
    unfold pit
    split
    · cases he
    · cases he
    · rfl
  rw [e', h]
  exact if_pos hl
theorem I_str {ev : Ev} {e : Expr} {x : List Nat} (he : plainIter e = true) (h : ev e ρ = some (o, .str x)) (hl : x.length ≤ 1000000) : pit sc ev e ρ = some (x.map fun c => .str [c]) := by
  have e' : pit sc ev e ρ = match ev e ρ with
    | some (true, .list l) => if l.length ≤ 1000000 then some l else none
    | some (_, .str x) => if x.length ≤ 1000000 then some (x.map fun c => .str [c]) else none
    | _ => none := by
    unfold pit
    split
    · cases he
    · cases he
    · rfl
  rw [e', h]
  cases o <;> exact if_pos hl
theorem F_cons {f : D → Option (List D)} {r l l' : List D} (h : f d = some l) (hr : pforeach f r = some l') : pforeach f (d :: r) = some (l ++ l') := by
  show (f d).bind _ = _
  rw [h]
  show (pforeach f r).bind _ = _
  rw [hr]; rfl
theorem F_map {α : Type} {f : D → Option (List D)} {g : α → D} {k : α → List D} {l : List α} (h : ∀ x ∈ l, f (g x) = some (k x)) : pforeach f (l.map g) = some (l.flatMap k) := by
  induction l with
  | nil => rfl
  | cons x r ih => exact F_cons (h x List.mem_cons_self) (ih fun y hy => h y (List.mem_cons_of_mem _ hy))
theorem Tu_elt {ev : Ev} {elt : Expr} {x : Str} {it : Expr} {ifs : List Expr} {pos : Pos} (hx : ((ρ.lookup x).isNone && own sc x) = true) (hf : pfilter (pt ev n) ifs (ρ.set x (false, d)) = some true) (h : ev elt (ρ.set x (false, d)) = some (true, a)) :
    pturn sc ev n elt [⟨.Name x pos, it, ifs, 0⟩] ρ d = some [a] := by
  show (if ((ρ.lookup x).isNone && own sc x) = true then (match pfilter (pt ev n) ifs (ρ.set x (false, d)) with | some true => _ | some false => _ | none => _) else none) = _
  rw [if_pos hx, hf]
  show (match ev elt (ρ.set x (false, d)) with | some (true, v) => some [v] | _ => none) = _
  rw [h]
theorem Tu_skip {ev : Ev} {elt : Expr} {x : Str} {it : Expr} {ifs : List Expr} {pos : Pos} {gs : List Comprehension} (hx : ((ρ.lookup x).isNone && own sc x) = true) (hf : pfilter (pt ev n) ifs (ρ.set x (false, d)) = some false) :
    pturn sc ev n elt (⟨.Name x pos, it, ifs, 0⟩ :: gs) ρ d = some [] := by
  show (if ((ρ.lookup x).isNone && own sc x) = true then (match pfilter (pt ev n) ifs (ρ.set x (false, d)) with | some true => _ | some false => _ | none => _) else none) = _
  rw [if_pos hx, hf]
theorem Fi_nil {tst : Expr → PEnv → Option Bool} : pfilter tst [] ρ = some true := rfl
theorem Fi_one {tst : Expr → PEnv → Option Bool} {e : Expr} {c : Bool} (h : tst e ρ = some c) : pfilter tst [e] ρ = some c := by
  unfold pfilter
  rw [h]
  cases c <;> rfl
end
end Mine
end
section
open PySem PySem.W PyProof.Rows
set_option Elab.async false
set_option maxRecDepth 10000
namespace Mine
section
variable {G : Tb} {n m : Fu} {sc : List (Str × NameKind)} {ρ ρ' : PEnv} {o o1 o2 : Bool} {a b d : D} {p q r : Pos} {k : Nat} {ev : Ev} {mu : List Str} {run : List Stmt → PEnv → Option (PEnv × PFlow)}
noncomputable def notList (e : Expr) : Bool := (listOfE e).isNone
theorem S_list {x : Str} {es : List Expr} {ds : List D} (hx : own sc x = true) (h : pclean ev es ρ = some ds) (hl : ds.length ≤ 1000000) :
    pxStep sc ev n mu run (.Assign [.Name x p] (.List es q) r) ρ = some (ρ.set x (mu.contains x, .list ds), PFlow.next) := by
  show (if own sc x = true then (pclean ev es ρ).bind _ else none) = _
  rw [if_pos hx, h]
  show (if ds.length ≤ 1000000 then _ else none) = _
  rw [if_pos hl]
theorem S_assign {x : Str} {e : Expr} (hx : (own sc x && okValue e) = true) (he : notList e = true) (h : ev e ρ = some (true, d)) : pxStep sc ev n mu run (.Assign [.Name x p] e r) ρ = some (ρ.set x (false, d), PFlow.next) := by
  show (match listOfE e with
    | some es => _
    | none => (if (own sc x && okValue e) = true then (match ev e ρ with
      | some (true, d) => some (ρ.set x (false, d), PFlow.next)
      | _ => none) else none)) = _
  rw [none_of he]
  show (if (own sc x && okValue e) = true then _ else none) = _
  rw [if_pos hx, h]
theorem S_addI {x : Str} {e : Expr} {i j : Int} (hx : own sc x = true) (hl : ρ.lookup x = some (false, .int i)) (h : ev e ρ = some (o, .int j)) : pxStep sc ev n mu run (.AugAssign (.Name x p) .Add e r) ρ = some (ρ.set x (false, .int (i + j)), PFlow.next) := by
  show (if own sc x = true then (match ρ.lookup x, Operator.Add with
    | some (false, .int a), .Add => (match ev e ρ with | some (_, .int b) => some (ρ.set x (false, .int (a + b)), PFlow.next) | _ => none)
    | some (false, .int a), .Mult => (match ev e ρ with | some (_, .int b) => if (big a && big b) = true then some (ρ.set x (false, .int (a * b)), PFlow.next) else none | _ => none)
    | some (false, .str a), .Add => (match ev e ρ with | some (_, .str b) => if (a ++ b).length ≤ 1000000 then some (ρ.set x (false, .str (a ++ b)), PFlow.next) else none | _ => none)
    | _, _ => none) else none) = _
  rw [if_pos hx, hl]
  show (match ev e ρ with | some (_, .int b) => some (ρ.set x (false, .int (i + b)), PFlow.next) | _ => none) = _
  rw [h]
theorem S_mulI {x : Str} {e : Expr} {i j : Int} (hx : own sc x = true) (hl : ρ.lookup x = some (false, .int i)) (h : ev e ρ = some (o, .int j)) (hb : (big i && big j) = true) : pxStep sc ev n mu run (.AugAssign (.Name x p) .Mult e r) ρ = some (ρ.set x (false, .int (i * j)), PFlow.next) := by
  show (if own sc x = true then (match ρ.lookup x, Operator.Mult with
    | some (false, .int a), .Add => (match ev e ρ with | some (_, .int b) => some (ρ.set x (false, .int (a + b)), PFlow.next) | _ => none)
    | some (false, .int a), .Mult => (match ev e ρ with | some (_, .int b) => if (big a && big b) = true then some (ρ.set x (false, .int (a * b)), PFlow.next) else none | _ => none)
    | some (false, .str a), .Add => (match ev e ρ with | some (_, .str b) => if (a ++ b).length ≤ 1000000 then some (ρ.set x (false, .str (a ++ b)), PFlow.next) else none | _ => none)
    | _, _ => none) else none) = _
  rw [if_pos hx, hl]
  show (match ev e ρ with | some (_, .int b) => if (big i && big b) = true then some (ρ.set x (false, .int (i * b)), PFlow.next) else none | _ => none) = _
  rw [h]
  exact if_pos hb
theorem S_if {t : Expr} {x y : List Stmt} {c : Bool} {z : Option (PEnv × PFlow)} (ht : pt ev n t ρ = some c) (h : (if c = true then run x ρ else run y ρ) = z) : pxStep sc ev n mu run (.If t x y r) ρ = z := by
  show (pt ev n t ρ).bind _ = _
  rw [ht]
  exact h
theorem S_ift {t : Expr} {x y : List Stmt} {c : Bool} {z : Option (PEnv × PFlow)} (ht : pt ev n t ρ = some c) (hc : c = true) (h : run x ρ = z) : pxStep sc ev n mu run (.If t x y r) ρ = z := S_if ht (by rw [if_pos hc]; exact h)
theorem S_iff {t : Expr} {x y : List Stmt} {c : Bool} {z : Option (PEnv × PFlow)} (ht : pt ev n t ρ = some c) (hc : c = false) (h : run y ρ = z) : pxStep sc ev n mu run (.If t x y r) ρ = z := S_if ht (by rw [if_neg (by rw [hc]; exact Bool.false_ne_true)]; exact h)
theorem S_for {x : Str} {it : Expr} {body : List Stmt} {items : List D} {z : Option (PEnv × PFlow)} (hx : own sc x = true) (hi : pit sc ev it ρ = some items) (h : ploop x (run body) items ρ = z) : pxStep sc ev n mu run (.For (.Name x p) it body [] r) ρ = z := by
  show (if own sc x = true then (pit sc ev it ρ).bind _ else none) = _
  rw [if_pos hx, hi]
  exact h
theorem S_retN {x : Str} (hl : ρ.lookup x = some (o, d)) (ho : (!o || own sc x) = true) : pxStep sc ev n mu run (.Return (some (.Name x p)) r) ρ = some (ρ, .ret d) := by
  show (ρ.lookup x).bind _ = _
  rw [hl]
  exact if_pos ho
noncomputable def notName (e : Expr) : Bool := (nameOfE e).isNone
theorem S_ret {e : Expr} (he : notName e = true) (h : ev e ρ = some (true, d)) : pxStep sc ev n mu run (.Return (some e) r) ρ = some (ρ, .ret d) := by
  show (match nameOfE e with
    | some x => _
    | none => (ev e ρ).bind fun a => if a.1 = true then some (ρ, PFlow.ret a.2) else none) = _
  rw [none_of he]
  show (ev e ρ).bind _ = _
  rw [h]; rfl
theorem S_append {x : Str} {e : Expr} {l : List D} {p1 p2 p3 p4 : Pos} (hc : (p2.endLine == p3.line && own sc x) = true) (hl : ρ.lookup x = some (true, .list l)) (he : notName e = true) (h : pclean ev [e] ρ = some [d]) (hn : l.length ≤ 1000000) :
    pxStep sc ev n mu run (.Expr (.Call (.Attribute (.Name x p1) (Str.ofString "append") p2) [e] [] p3) p4) ρ = some (ρ.set x (true, .list (l ++ [d])), PFlow.next) := by
  show (if (p2.endLine == p3.line && own sc x) = true then (match ρ.lookup x with
    | some (true, .list l) =>
      if (Str.ofString "append" == "append") = true then
        (match nameOfE e with
        | some y => _
        | none => (match pclean ev [e] ρ with
          | some [d] => if l.length ≤ 1000000 then some (ρ.set x (true, .list (l ++ [d])), PFlow.next) else none
          | _ => none))
      else if (Str.ofString "append" == "extend") = true then (match pclean ev [e] ρ with
        | some [.list ds] => if (l ++ ds).length ≤ 1000000 then some (ρ.set x (true, .list (l ++ ds)), PFlow.next) else none
        | _ => none)
      else none
    | _ => none) else none) = _
  rw [if_pos hc, hl]
  dsimp only
  rw [if_pos (by decide +kernel), none_of he]
  dsimp only
  rw [h]
  exact if_pos hn
theorem S_appendN {x y : Str} {l : List D} {p1 p2 p3 p4 p5 : Pos} (hc : (p2.endLine == p3.line && own sc x) = true) (hl : ρ.lookup x = some (true, .list l)) (hy : ρ.lookup y = some (false, d)) (hn : l.length ≤ 1000000) :
    pxStep sc ev n mu run (.Expr (.Call (.Attribute (.Name x p1) (Str.ofString "append") p2) [.Name y p5] [] p3) p4) ρ = some (ρ.set x (true, .list (l ++ [d])), PFlow.next) := by
  show (if (p2.endLine == p3.line && own sc x) = true then (match ρ.lookup x with
    | some (true, .list l) =>
      if (Str.ofString "append" == "append") = true then
        (match ρ.lookup y with
          | some (true, d) => if (y == x || !own sc y) = true then none else if l.length ≤ 1000000 then some ((ρ.set y (false, d)).set x (true, .list (l ++ [d])), PFlow.next) else none
          | some (false, d) => if l.length ≤ 1000000 then some (ρ.set x (true, .list (l ++ [d])), PFlow.next) else none
          | none => none)
      else _
    | _ => none) else none) = _
  rw [if_pos hc, hl]
  dsimp only
  rw [if_pos (by decide +kernel), hy]
  exact if_pos hn
theorem S_appendO {x y : Str} {l : List D} {p1 p2 p3 p4 p5 : Pos} (hc : (p2.endLine == p3.line && own sc x) = true) (hl : ρ.lookup x = some (true, .list l)) (hy : ρ.lookup y = some (true, d)) (hyx : (y == x || !own sc y) = false) (hn : l.length ≤ 1000000) :
    pxStep sc ev n mu run (.Expr (.Call (.Attribute (.Name x p1) (Str.ofString "append") p2) [.Name y p5] [] p3) p4) ρ = some ((ρ.set y (false, d)).set x (true, .list (l ++ [d])), PFlow.next) := by
  show (if (p2.endLine == p3.line && own sc x) = true then (match ρ.lookup x with
    | some (true, .list l) =>
      if (Str.ofString "append" == "append") = true then
        (match ρ.lookup y with
          | some (true, d) => if (y == x || !own sc y) = true then none else if l.length ≤ 1000000 then some ((ρ.set y (false, d)).set x (true, .list (l ++ [d])), PFlow.next) else none
          | some (false, d) => if l.length ≤ 1000000 then some (ρ.set x (true, .list (l ++ [d])), PFlow.next) else none
          | none => none)
      else _
    | _ => none) else none) = _
  rw [if_pos hc, hl]
  dsimp only
  rw [if_pos (by decide +kernel), hy]
  dsimp only
  rw [hyx, if_neg Bool.false_ne_true]
  exact if_pos hn
theorem S_extend {x : Str} {e : Expr} {l ds : List D} {p1 p2 p3 p4 : Pos} (hc : (p2.endLine == p3.line && own sc x) = true) (hl : ρ.lookup x = some (true, .list l)) (h : pclean ev [e] ρ = some [.list ds]) (hn : (l ++ ds).length ≤ 1000000) :
    pxStep sc ev n mu run (.Expr (.Call (.Attribute (.Name x p1) (Str.ofString "extend") p2) [e] [] p3) p4) ρ = some (ρ.set x (true, .list (l ++ ds)), PFlow.next) := by
  show (if (p2.endLine == p3.line && own sc x) = true then (match ρ.lookup x with
    | some (true, .list l) =>
      if (Str.ofString "extend" == "append") = true then _
      else if (Str.ofString "extend" == "extend") = true then (match pclean ev [e] ρ with
        | some [.list ds] => if (l ++ ds).length ≤ 1000000 then some (ρ.set x (true, .list (l ++ ds)), PFlow.next) else none
        | _ => none)
      else none
    | _ => none) else none) = _
  rw [if_pos hc, hl]
  dsimp only
  rw [if_neg (by decide +kernel), if_pos (by decide +kernel), h]
  exact if_pos hn
theorem Q_nil {f : Stmt → PEnv → Option (PEnv × PFlow)} : pseq f [] ρ = some (ρ, PFlow.next) := rfl
theorem Q_next {f : Stmt → PEnv → Option (PEnv × PFlow)} {st : Stmt} {rest : List Stmt} {z : Option (PEnv × PFlow)} (h : f st ρ = some (ρ', PFlow.next)) (hr : pseq f rest ρ' = z) : pseq f (st :: rest) ρ = z := by
  show (match f st ρ with | some (ρ', PFlow.next) => pseq f rest ρ' | o => o) = _
  rw [h]
  exact hr
theorem Q_ret {f : Stmt → PEnv → Option (PEnv × PFlow)} {st : Stmt} {rest : List Stmt} (h : f st ρ = some (ρ', .ret d)) : pseq f (st :: rest) ρ = some (ρ', .ret d) := by
  show (match f st ρ with | some (ρ', PFlow.next) => pseq f rest ρ' | o => o) = _
  rw [h]
theorem X_seq {sts : List Stmt} {z : Option (PEnv × PFlow)} (h : pseq (pxStep sc ev m mu (px sc ev m mu n)) sts ρ = z) : px sc ev m mu (.s n) sts ρ = z := h
noncomputable abbrev fuL : Fu := .s (.s (.s (.s (.s (.s (.s (.s (.s (.s (.s (.s (.s (.s (.s (.s .z)))))))))))))))
theorem D_def {params : List Str} {body : List Stmt} {ds : List D} (hl : ds.length = params.length) (hρ : ((params.zip ds).map fun p => (p.1, false, p.2)) = ρ) (h : px sc (pe G fuL sc) fuL mu fuL body ρ = some (ρ', .ret d)) : pdef G params sc mu body ds = some d := by
  unfold pdef
  rw [if_pos hl, hρ]
  show (match px sc (pe G fuL sc) fuL mu fuL body ρ with | some (_, .ret d) => some d | _ => none) = _
  rw [h]
theorem L_next {x : Str} {body : PEnv → Option (PEnv × PFlow)} {l : List D} {z : Option (PEnv × PFlow)} (h : body (ρ.set x (false, d)) = some (ρ', PFlow.next)) (hr : ploop x body l ρ' = z) : ploop x body (d :: l) ρ = z := by
  show (match body (ρ.set x (false, d)) with | some (ρ', PFlow.next) => ploop x body l ρ' | o => o) = _
  rw [h]
  exact hr
end
end Mine
end
section
open PySem PySem.W PyProof.Rows
set_option Elab.async false
set_option maxRecDepth 10000
namespace Mine
theorem pb_mod (a b : Nat) (h : b ≠ 0) : pbin .Mod (.int (a : Int)) (.int (b : Int)) = some (.int ((a % b : Nat) : Int)) := by
  show (if ((b : Int) != 0) = true then some (D.int ((a : Int).fmod b)) else none) = _
  rw [if_pos (by simp; exact h), Int.fmod_eq_emod_of_nonneg _ (by omega)]; rfl
theorem pb_div (a b : Nat) (h : b ≠ 0) (h' : b < 1073741824) : pbin .FloorDiv (.int (a : Int)) (.int (b : Int)) = some (.int ((a / b : Nat) : Int)) := by
  show (if ((b : Int) != 0 && decide ((b : Int).natAbs < 1073741824)) = true then some (D.int ((a : Int).fdiv b)) else none) = _
  rw [if_pos (by simp; exact ⟨h, h'⟩), Int.fdiv_eq_ediv_of_nonneg _ (by omega)]; rfl
theorem pb_add (a b : Nat) : pbin .Add (.int (a : Int)) (.int (b : Int)) = some (.int ((a + b : Nat) : Int)) := rfl
theorem pb_sub (a b : Nat) (h : b ≤ a) : pbin .Sub (.int (a : Int)) (.int (b : Int)) = some (.int ((a - b : Nat) : Int)) := by
  show some (D.int ((a : Int) - (b : Int))) = _
  rw [Int.ofNat_sub h]
theorem pb_mul (a b : Nat) (ha : a < 1000000000) (hb : b < 1000000000) : pbin .Mult (.int (a : Int)) (.int (b : Int)) = some (.int ((a * b : Nat) : Int)) := by
  show (if (big a && big b) = true then some (D.int ((a : Int) * b)) else none) = _
  rw [if_pos (by simp [big]; omega)]; rfl
theorem pb_pow (a b : Nat) (ha : a ≤ 64) (hb : b ≤ 64) : pbin .Pow (.int (a : Int)) (.int (b : Int)) = some (.int ((a ^ b : Nat) : Int)) := by
  show (if (decide ((0 : Int) ≤ b) && decide ((b : Int) ≤ 64) && decide ((a : Int).natAbs ≤ 64)) = true then some (D.int ((a : Int) ^ (b : Int).toNat)) else none) = _
  rw [if_pos (by simp; omega), Int.toNat_natCast, ← Int.natCast_pow]
theorem pb_addS (x y : List Nat) (h : (x ++ y).length ≤ 1000000) : pbin .Add (.str x) (.str y) = some (.str (x ++ y)) := by
  show mkS (x ++ y) = _
  unfold mkS
  rw [if_pos h]
theorem pb_addL (x y : List D) (h : (x ++ y).length ≤ 1000000) : pbin .Add (.list x) (.list y) = some (.list (x ++ y)) := by
  show mkL (x ++ y) = _
  unfold mkL
  rw [if_pos h]
theorem pc_lt (a b : Nat) : pcmp .Lt (.int (a : Int)) (.int (b : Int)) = some (decide (a < b)) := by
  show some (decide ((a : Int) < (b : Int))) = _
  congr 1
  exact decide_eq_decide.mpr (by omega)
theorem beq_nat (a b : Nat) : (((a : Int)) == (b : Int)) = (a == b) := by
  cases h : a == b with
  | true => rw [eq_of_beq h]; simp
  | false => simp only [beq_eq_false_iff_ne] at h ⊢; omega
theorem pc_eq (a b : Nat) : pcmp .Eq (.int (a : Int)) (.int (b : Int)) = some (a == b) := by
  show some ((a : Int) == (b : Int)) = _
  rw [beq_nat]
theorem pc_ne (a b : Nat) : pcmp .NotEq (.int (a : Int)) (.int (b : Int)) = some (!(a == b)) := by
  show some (!((a : Int) == (b : Int))) = _
  rw [beq_nat]
theorem lit (n : Nat) : (OfNat.ofNat n : Int) = ((OfNat.ofNat n : Nat) : Int) := rfl
section
variable {x y : Int} {a b : Nat}
theorem lf_mod (ha : x = (a : Int)) (hb : y = (b : Int)) (h : b ≠ 0) : pbin .Mod (.int x) (.int y) = some (.int ((a % b : Nat) : Int)) := by subst ha hb; exact pb_mod a b h
theorem lf_div (ha : x = (a : Int)) (hb : y = (b : Int)) (h : b ≠ 0) (h' : b < 1073741824) : pbin .FloorDiv (.int x) (.int y) = some (.int ((a / b : Nat) : Int)) := by subst ha hb; exact pb_div a b h h'
theorem lf_add (ha : x = (a : Int)) (hb : y = (b : Int)) : pbin .Add (.int x) (.int y) = some (.int ((a + b : Nat) : Int)) := by subst ha hb; exact pb_add a b
theorem lf_sub (ha : x = (a : Int)) (hb : y = (b : Int)) (h : b ≤ a) : pbin .Sub (.int x) (.int y) = some (.int ((a - b : Nat) : Int)) := by subst ha hb; exact pb_sub a b h
theorem lf_mul (ha : x = (a : Int)) (hb : y = (b : Int)) (h : a < 1000000000) (h' : b < 1000000000) : pbin .Mult (.int x) (.int y) = some (.int ((a * b : Nat) : Int)) := by subst ha hb; exact pb_mul a b h h'
theorem lf_pow (ha : x = (a : Int)) (hb : y = (b : Int)) (h : a ≤ 64) (h' : b ≤ 64) : pbin .Pow (.int x) (.int y) = some (.int ((a ^ b : Nat) : Int)) := by subst ha hb; exact pb_pow a b h h'
theorem lf_lt (ha : x = (a : Int)) (hb : y = (b : Int)) : pcmp .Lt (.int x) (.int y) = some (decide (a < b)) := by subst ha hb; exact pc_lt a b
theorem lf_eq (ha : x = (a : Int)) (hb : y = (b : Int)) : pcmp .Eq (.int x) (.int y) = some (a == b) := by subst ha hb; exact pc_eq a b
theorem lf_ne (ha : x = (a : Int)) (hb : y = (b : Int)) : pcmp .NotEq (.int x) (.int y) = some (!(a == b)) := by subst ha hb; exact pc_ne a b
theorem lf_and (ha : x = (a : Int)) (hb : y = (b : Int)) : pbin .BitAnd (.int x) (.int y) = some (.int ((a &&& b : Nat) : Int)) := by subst ha hb; rfl
end
theorem pat_ok {α : Type} (l : List α) (i : Nat) (h : i < l.length) (hl : l.length ≤ 1000000) (d : α) : pat l (i : Int) = some (l.getD i d) := by
  unfold pat
  rw [if_pos (by simp; omega)]
  have e : seqIndex? (i : Int) l.length = some i := by
    unfold seqIndex?
    simp
    omega
  rw [e]
  show l[i]? = _
  rw [List.getD_eq_getElem?_getD, List.getElem?_eq_getElem h]
  rfl
theorem pi_str (x : List Nat) (i : Nat) (h : i < x.length) (hl : x.length ≤ 1000000) : pidx (.str x) (.int (i : Int)) = some (.str [x.getD i 0]) := by
  unfold pidx
  dsimp only
  rw [pat_ok x i h hl 0]; rfl
theorem pi_list (x : List D) (i : Nat) (h : i < x.length) (hl : x.length ≤ 1000000) : pidx (.list x) (.int (i : Int)) = some (x.getD i .none) := by
  unfold pidx
  exact pat_ok x i h hl .none
theorem bi_len (x : List Nat) (h : x.length ≤ 1000000) : pbuiltin (Str.ofString "len") [.str x] = some (.int (x.length : Nat)) := by
  unfold pbuiltin
  rw [if_pos (by decide +kernel)]
  dsimp only
  rw [if_pos h]
theorem bi_lenL (x : List D) (h : x.length ≤ 1000000) : pbuiltin (Str.ofString "len") [.list x] = some (.int (x.length : Nat)) := by
  unfold pbuiltin
  rw [if_pos (by decide +kernel)]
  dsimp only
  rw [if_pos h]
theorem bi_ord (c : Nat) : pbuiltin (Str.ofString "ord") [.str [c]] = some (.int (c : Nat)) := rfl
theorem bi_chr (i : Nat) (h : i ≤ 1114111) : pbuiltin (Str.ofString "chr") [.int (i : Int)] = some (.str [i]) := by
  unfold pbuiltin
  rw [if_neg (by decide +kernel), if_neg (by decide +kernel), if_pos (by decide +kernel)]
  show (if (decide ((0 : Int) ≤ i) && decide ((i : Int) ≤ 0x10FFFF)) = true then some (D.str [(i : Int).toNat]) else none) = _
  rw [if_pos (by simp; omega), Int.toNat_natCast]
theorem lf_chr {x : Int} {a : Nat} (ha : x = (a : Int)) (h : a ≤ 1114111) : pbuiltin (Str.ofString "chr") [.int x] = some (.str [a]) := by subst ha; exact bi_chr a h
theorem lf_str {x : Int} {a : Nat} {t : List Nat} (ha : x = (a : Int)) (h : a < t.length) (hl : t.length ≤ 1000000) : pidx (.str t) (.int x) = some (.str [t.getD a 0]) := by subst ha; exact pi_str t a h hl
theorem lf_list {x : Int} {a : Nat} {t : List D} (ha : x = (a : Int)) (h : a < t.length) (hl : t.length ≤ 1000000) : pidx (.list t) (.int x) = some (t.getD a .none) := by subst ha; exact pi_list t a h hl
theorem ints?_map : ∀ (l : List Int), ints? (l.map .int) = some l
  | [] => rfl
  | i :: r => by show (ints? (r.map .int)).map _ = _; rw [ints?_map r]; rfl
theorem strs?_map : ∀ (l : List (List Nat)), strs? (l.map .str) = some l
  | [] => rfl
  | i :: r => by show (strs? (r.map .str)).map _ = _; rw [strs?_map r]; rfl
theorem bi_sum (l : List Int) (h : l.length ≤ 1000000) : pbuiltin (Str.ofString "sum") [.list (l.map .int)] = some (.int l.sum) := by
  unfold pbuiltin
  rw [if_neg (by decide +kernel), if_neg (by decide +kernel), if_neg (by decide +kernel), if_pos (by decide +kernel)]
  dsimp only
  rw [if_pos (by simpa using h), ints?_map]; rfl
theorem me_join (xs : List (List Nat)) (h : xs.flatten.length + xs.length ≤ 1000000) : pmeth (Str.ofString "join") (.str []) [.list (xs.map .str)] = some (.str xs.flatten) := by
  unfold pmeth
  dsimp only
  rw [if_pos (by decide +kernel), strs?_map]
  exact if_pos (by simpa using h)
theorem upto_range : ∀ (n a : Nat), upto (a : Int) n = (List.range' a n).map fun k : Nat => D.int (k : Int)
  | 0, _ => rfl
  | n + 1, a => by
    rw [List.range'_succ, List.map_cons]
    show D.int (a : Int) :: upto ((a : Int) + 1) n = _
    rw [show ((a : Int) + 1) = ((a + 1 : Nat) : Int) from rfl, upto_range n (a + 1)]
theorem upto0 (n : Nat) : upto 0 ((n : Int) - 0).toNat = (List.range n).map fun k : Nat => D.int (k : Int) := by
  rw [List.range_eq_range', show ((n : Int) - 0).toNat = n by omega]
  exact upto_range n 0
section
variable {sc : List (Str × NameKind)} {ρ : PEnv} {ev : Ev}
theorem I_rangeN {args : List Expr} {n : Nat} {p r : Pos} (hk : sc.lookup (Str.ofString "range") = some .globalImplicit) (ha : pvals ev args ρ = some [.int (n : Int)]) (hn : n ≤ 1000000) :
    pit sc ev (.Call (.Name (Str.ofString "range") p) args [] r) ρ = some ((List.range n).map fun k : Nat => D.int (k : Int)) := by
  rw [I_range1 hk ha (by simp [small?]; omega), upto0]
theorem I_rangeN2 {args : List Expr} {a n : Nat} {p r : Pos} (hk : sc.lookup (Str.ofString "range") = some .globalImplicit) (ha : pvals ev args ρ = some [.int (a : Int), .int (n : Int)]) (hn : n ≤ 1000000) (h0 : a ≤ n) :
    pit sc ev (.Call (.Name (Str.ofString "range") p) args [] r) ρ = some ((List.range' a (n - a)).map fun k : Nat => D.int (k : Int)) := by
  rw [I_range2 hk ha (by simp [small?]; omega), show (((n : Int) - (a : Int)).toNat) = n - a by omega, upto_range]
end
theorem F_map1 {α : Type} {f : D → Option (List D)} {g : α → D} {k : α → D} {l : List α} (h : ∀ x ∈ l, f (g x) = some [k x]) : pforeach f (l.map g) = some (l.map k) := by
  rw [F_map (k := fun x => [k x]) h]
  congr 1
  induction l with
  | nil => rfl
  | cons x r ih => rw [List.flatMap_cons, List.map_cons, ih fun y hy => h y (List.mem_cons_of_mem _ hy)]; rfl
end Mine
end
section
open PySem PySem.W PyProof.Rows
set_option Elab.async false
set_option maxRecDepth 10000
namespace Mine
noncomputable def nothTab : List Nat := (List.range 16).map (65024 + ·) ++ [173, 847, 6150, 6155, 6156, 6157, 8203, 8204, 8205, 8288, 65279]
noncomputable def nothing (k : Nat) : Nat := nothTab.getD (k % 27) 0
noncomputable def nobody (k : Nat) : Nat := if k % 66 < 32 then 64976 + k % 66 else (k % 66 - 32) / 2 * 65536 + (65534 + k % 2)
noncomputable def c4 (c : Nat) : Bool := if c < 64976 then false else if c < 65008 then true else (c &&& 65535 == 65534 || c &&& 65535 == 65535)
theorem noth_lo : ∀ r, r < 16 → nothTab.getD r 0 = 65024 + r := by decide
theorem noth_hi : ∀ r, r < 27 → ¬ r < 16 → nothTab.getD r 0 = ([173, 847, 6150, 6155, 6156, 6157, 8203, 8204, 8205, 8288, 65279] : List Nat).getD (r - 16) 0 := by decide
theorem noth_in (r : Nat) (h : r < 11) : pbuiltin (Str.ofString "chr") [([.int 173, .int 847, .int 6150, .int 6155, .int 6156, .int 6157, .int 8203, .int 8204, .int 8205, .int 8288, .int 65279] : List D).getD r .none] = some (.str [([173, 847, 6150, 6155, 6156, 6157, 8203, 8204, 8205, 8288, 65279] : List Nat).getD r 0]) := by
  have e : ([.int 173, .int 847, .int 6150, .int 6155, .int 6156, .int 6157, .int 8203, .int 8204, .int 8205, .int 8288, .int 65279] : List D) = ([173, 847, 6150, 6155, 6156, 6157, 8203, 8204, 8205, 8288, 65279] : List Nat).map fun n : Nat => D.int (n : Int) := rfl
  have hb : ∀ r, r < 11 → ([173, 847, 6150, 6155, 6156, 6157, 8203, 8204, 8205, 8288, 65279] : List Nat).getD r 0 ≤ 1114111 := by decide
  rw [e, List.getD_eq_getElem?_getD, List.getElem?_map, List.getElem?_eq_getElem h]
  have := bi_chr _ (hb r h)
  rw [List.getD_eq_getElem?_getD, List.getElem?_eq_getElem h] at this ⊢
  exact this
theorem lt2 : ∀ {n : Nat}, n < 2 → n = 0 ∨ n = 1
  | 0, _ => .inl rfl
  | 1, _ => .inr rfl
  | n + 2, h => absurd h (Nat.not_lt.mpr (Nat.le_add_left 2 n))
theorem lt3 {n : Nat} (h : n < 3) : n = 0 ∨ n = 1 ∨ n = 2 := by
  rcases Nat.lt_or_eq_of_le (Nat.le_of_lt_succ h) with h | h
  · exact (lt2 h).elim .inl fun h => .inr (.inl h)
  · exact .inr (.inr h)
theorem lt4 {n : Nat} (h : n < 4) : n = 0 ∨ n = 1 ∨ n = 2 ∨ n = 3 := by
  rcases Nat.lt_or_eq_of_le (Nat.le_of_lt_succ h) with h | h
  · exact (lt3 h).elim .inl fun h => .inr (h.elim .inl fun h => .inr (.inl h))
  · exact .inr (.inr (.inr h))
theorem mod4 (n : Nat) : n % 4 = 0 ∨ n % 4 = 1 ∨ n % 4 = 2 ∨ n % 4 = 3 := lt4 (Nat.mod_lt n (by decide))
theorem nothing_mem (k : Nat) : nothing k ∈ nothTab := by
  have h : ∀ r, r < 27 → nothTab.getD r 0 ∈ nothTab := by decide
  exact h _ (Nat.mod_lt _ (by decide))
theorem c4_in (a : Nat) : pcmp .In (.int (a : Int)) (.tup [.int 65534, .int 65535]) = some (a == 65534 || a == 65535) := by
  have e1 : ((65534 : Int) == (a : Int)) = (a == 65534) := by rw [lit, beq_nat]; exact Bool.beq_comm ..
  have e2 : ((65535 : Int) == (a : Int)) = (a == 65535) := by rw [lit, beq_nat]; exact Bool.beq_comm ..
  show (some ((65534 : Int) == (a : Int))).bind (fun x => ((some ((65535 : Int) == (a : Int))).bind fun x => (some false).map fun y => x || y).map fun y => x || y) = _
  rw [e1, e2]
  simp
end Mine
end
section
open PySem PySem.W PyProof.Rows PySem.Challenge
set_option Elab.async false
set_option maxRecDepth 100000
namespace Mine
namespace Row3
noncomputable def fn (G : Tab) (i : Nat) : List D → Option D := pdef G (argNames (dd i).params) (dd i).scope.names (muts 8 (dd i).body) (dd i).body
theorem nothing_ok {G : Tab} (h1 : G.lookup (Str.ofString "chr") = none) (k : Nat) : fn G 5 [.int (k : Int)] = some (.str [nothing k]) := by
  have hm : k % 27 < 27 := Nat.mod_lt _ (by decide)
  by_cases h : k % 27 < 16
  · refine' D_def (ρ := [(Str.ofString "k", false, .int k)]) rfl rfl (X_seq (Q_ret (S_ift ?t ?c (X_seq (Q_ret (S_ret rfl ?e))))))
    case t => (repeat' (refine (?_ : (_ : Prop)); first | with_reducible exact C_nil | with_reducible exact V_nil | with_reducible refine' C_cons ?_ ?_ ?_ | with_reducible refine' V_cons ?_ ?_ ?_ | (with_reducible refine' E_constS ?_; first | with_reducible exact PySem.W.KWk.none_list | with_reducible exact kk_s | with_reducible exact kk_t | with_reducible exact kk_st | with_reducible exact kk_s4 | with_reducible exact kk_t4 | with_reducible exact kk_ss | with_reducible exact kk_lst | with_reducible exact kk_fil | with_reducible exact kk_f) | with_reducible refine' E_const ?_ | with_reducible refine' E_name ?_ | with_reducible refine' E_bin ?_ ?_ ?_ | with_reducible refine' E_cmp ?_ ?_ ?_ ?_ ?_ | with_reducible refine' E_sub ?_ ?_ ?_ ?_ | with_reducible refine' E_list ?_ ?_ | with_reducible refine' E_tup ?_ ?_ | (with_reducible refine' E_callB ?_ ?k2 ?_ ?_; case k2 => assumption) | (with_reducible refine' E_callG ?_ ?k2 ?_ ?_; case k2 => assumption) | with_reducible refine' T_cmp ?_ ?_ ?_ ?_ ?_ | with_reducible refine' T_call ?_ | with_reducible refine' T_not ?_ | with_reducible refine' lf_mod ?_ ?_ ?_ | with_reducible refine' lf_div ?_ ?_ ?_ ?_ | with_reducible refine' lf_add ?_ ?_ | with_reducible refine' lf_sub ?_ ?_ ?_ | with_reducible refine' lf_mul ?_ ?_ ?_ ?_ | with_reducible refine' lf_pow ?_ ?_ ?_ ?_ | with_reducible refine' lf_and ?_ ?_ | with_reducible refine' lf_lt ?_ ?_ | with_reducible refine' lf_le ?_ ?_ | with_reducible refine' lf_eq ?_ ?_ | with_reducible refine' lf_ne ?_ ?_ | with_reducible refine' lf_chr ?_ ?_ | with_reducible refine' lf_str ?_ ?_ ?_ | with_reducible refine' lf_list ?_ ?_ ?_ | with_reducible refine' lf_tup ?_ ?_ ?_ | with_reducible exact bi_ord _ | with_reducible exact pcs_eq _ _ | with_reducible refine' bi_len _ ?_ | with_reducible exact lit _ | with_reducible rfl | rfl | omega | decide | (simp only [List.length_cons, List.length_nil]; omega)))
    case c => exact decide_eq_true h
    case e =>
      refine' E_callB rfl h1 ?v ?w
      case v => (repeat' (refine (?_ : (_ : Prop)); first | with_reducible exact C_nil | with_reducible exact V_nil | with_reducible refine' C_cons ?_ ?_ ?_ | with_reducible refine' V_cons ?_ ?_ ?_ | (with_reducible refine' E_constS ?_; first | with_reducible exact PySem.W.KWk.none_list | with_reducible exact kk_s | with_reducible exact kk_t | with_reducible exact kk_st | with_reducible exact kk_s4 | with_reducible exact kk_t4 | with_reducible exact kk_ss | with_reducible exact kk_lst | with_reducible exact kk_fil | with_reducible exact kk_f) | with_reducible refine' E_const ?_ | with_reducible refine' E_name ?_ | with_reducible refine' E_bin ?_ ?_ ?_ | with_reducible refine' E_cmp ?_ ?_ ?_ ?_ ?_ | with_reducible refine' E_sub ?_ ?_ ?_ ?_ | with_reducible refine' E_list ?_ ?_ | with_reducible refine' E_tup ?_ ?_ | (with_reducible refine' E_callB ?_ ?k2 ?_ ?_; case k2 => assumption) | (with_reducible refine' E_callG ?_ ?k2 ?_ ?_; case k2 => assumption) | with_reducible refine' T_cmp ?_ ?_ ?_ ?_ ?_ | with_reducible refine' T_call ?_ | with_reducible refine' T_not ?_ | with_reducible refine' lf_mod ?_ ?_ ?_ | with_reducible refine' lf_div ?_ ?_ ?_ ?_ | with_reducible refine' lf_add ?_ ?_ | with_reducible refine' lf_sub ?_ ?_ ?_ | with_reducible refine' lf_mul ?_ ?_ ?_ ?_ | with_reducible refine' lf_pow ?_ ?_ ?_ ?_ | with_reducible refine' lf_and ?_ ?_ | with_reducible refine' lf_lt ?_ ?_ | with_reducible refine' lf_le ?_ ?_ | with_reducible refine' lf_eq ?_ ?_ | with_reducible refine' lf_ne ?_ ?_ | with_reducible refine' lf_chr ?_ ?_ | with_reducible refine' lf_str ?_ ?_ ?_ | with_reducible refine' lf_list ?_ ?_ ?_ | with_reducible refine' lf_tup ?_ ?_ ?_ | with_reducible exact bi_ord _ | with_reducible exact pcs_eq _ _ | with_reducible refine' bi_len _ ?_ | with_reducible exact lit _ | with_reducible rfl | rfl | omega | decide | (simp only [List.length_cons, List.length_nil]; omega)))
      case w =>
        rw [bi_chr _ (by omega)]
        unfold nothing
        rw [noth_lo _ h]
  · refine' D_def (ρ := [(Str.ofString "k", false, .int k)]) rfl rfl (X_seq (Q_next (S_iff ?t2 ?c2 (X_seq Q_nil)) (Q_ret (S_ret rfl ?e2))))
    case t2 => (repeat' (refine (?_ : (_ : Prop)); first | with_reducible exact C_nil | with_reducible exact V_nil | with_reducible refine' C_cons ?_ ?_ ?_ | with_reducible refine' V_cons ?_ ?_ ?_ | (with_reducible refine' E_constS ?_; first | with_reducible exact PySem.W.KWk.none_list | with_reducible exact kk_s | with_reducible exact kk_t | with_reducible exact kk_st | with_reducible exact kk_s4 | with_reducible exact kk_t4 | with_reducible exact kk_ss | with_reducible exact kk_lst | with_reducible exact kk_fil | with_reducible exact kk_f) | with_reducible refine' E_const ?_ | with_reducible refine' E_name ?_ | with_reducible refine' E_bin ?_ ?_ ?_ | with_reducible refine' E_cmp ?_ ?_ ?_ ?_ ?_ | with_reducible refine' E_sub ?_ ?_ ?_ ?_ | with_reducible refine' E_list ?_ ?_ | with_reducible refine' E_tup ?_ ?_ | (with_reducible refine' E_callB ?_ ?k2 ?_ ?_; case k2 => assumption) | (with_reducible refine' E_callG ?_ ?k2 ?_ ?_; case k2 => assumption) | with_reducible refine' T_cmp ?_ ?_ ?_ ?_ ?_ | with_reducible refine' T_call ?_ | with_reducible refine' T_not ?_ | with_reducible refine' lf_mod ?_ ?_ ?_ | with_reducible refine' lf_div ?_ ?_ ?_ ?_ | with_reducible refine' lf_add ?_ ?_ | with_reducible refine' lf_sub ?_ ?_ ?_ | with_reducible refine' lf_mul ?_ ?_ ?_ ?_ | with_reducible refine' lf_pow ?_ ?_ ?_ ?_ | with_reducible refine' lf_and ?_ ?_ | with_reducible refine' lf_lt ?_ ?_ | with_reducible refine' lf_le ?_ ?_ | with_reducible refine' lf_eq ?_ ?_ | with_reducible refine' lf_ne ?_ ?_ | with_reducible refine' lf_chr ?_ ?_ | with_reducible refine' lf_str ?_ ?_ ?_ | with_reducible refine' lf_list ?_ ?_ ?_ | with_reducible refine' lf_tup ?_ ?_ ?_ | with_reducible exact bi_ord _ | with_reducible exact pcs_eq _ _ | with_reducible refine' bi_len _ ?_ | with_reducible exact lit _ | with_reducible rfl | rfl | omega | decide | (simp only [List.length_cons, List.length_nil]; omega)))
    case c2 => exact decide_eq_false h
    case e2 =>
      refine' E_callB rfl h1 (V_cons rfl ?v2 V_nil) ?w2
      case v2 => (repeat' (refine (?_ : (_ : Prop)); first | with_reducible exact C_nil | with_reducible exact V_nil | with_reducible refine' C_cons ?_ ?_ ?_ | with_reducible refine' V_cons ?_ ?_ ?_ | (with_reducible refine' E_constS ?_; first | with_reducible exact PySem.W.KWk.none_list | with_reducible exact kk_s | with_reducible exact kk_t | with_reducible exact kk_st | with_reducible exact kk_s4 | with_reducible exact kk_t4 | with_reducible exact kk_ss | with_reducible exact kk_lst | with_reducible exact kk_fil | with_reducible exact kk_f) | with_reducible refine' E_const ?_ | with_reducible refine' E_name ?_ | with_reducible refine' E_bin ?_ ?_ ?_ | with_reducible refine' E_cmp ?_ ?_ ?_ ?_ ?_ | with_reducible refine' E_sub ?_ ?_ ?_ ?_ | with_reducible refine' E_list ?_ ?_ | with_reducible refine' E_tup ?_ ?_ | (with_reducible refine' E_callB ?_ ?k2 ?_ ?_; case k2 => assumption) | (with_reducible refine' E_callG ?_ ?k2 ?_ ?_; case k2 => assumption) | with_reducible refine' T_cmp ?_ ?_ ?_ ?_ ?_ | with_reducible refine' T_call ?_ | with_reducible refine' T_not ?_ | with_reducible refine' lf_mod ?_ ?_ ?_ | with_reducible refine' lf_div ?_ ?_ ?_ ?_ | with_reducible refine' lf_add ?_ ?_ | with_reducible refine' lf_sub ?_ ?_ ?_ | with_reducible refine' lf_mul ?_ ?_ ?_ ?_ | with_reducible refine' lf_pow ?_ ?_ ?_ ?_ | with_reducible refine' lf_and ?_ ?_ | with_reducible refine' lf_lt ?_ ?_ | with_reducible refine' lf_le ?_ ?_ | with_reducible refine' lf_eq ?_ ?_ | with_reducible refine' lf_ne ?_ ?_ | with_reducible refine' lf_chr ?_ ?_ | with_reducible refine' lf_str ?_ ?_ ?_ | with_reducible refine' lf_list ?_ ?_ ?_ | with_reducible refine' lf_tup ?_ ?_ ?_ | with_reducible exact bi_ord _ | with_reducible exact pcs_eq _ _ | with_reducible refine' bi_len _ ?_ | with_reducible exact lit _ | with_reducible rfl | rfl | omega | decide | (simp only [List.length_cons, List.length_nil]; omega)))
      case w2 =>
        unfold nothing
        rw [noth_hi _ hm h]
        exact noth_in (k % 27 - 16) (by omega)
theorem nobody_ok {G : Tab} (h1 : G.lookup (Str.ofString "chr") = none) (k : Nat) : fn G 6 [.int (k : Int)] = some (.str [nobody k]) := by
  have hm : k % 66 < 66 := Nat.mod_lt _ (by decide)
  by_cases h : k % 66 < 32
  · refine' D_def (ρ := [(Str.ofString "k", false, .int k)]) rfl rfl (X_seq (Q_ret (S_ift ?t ?c (X_seq (Q_ret (S_ret rfl ?e))))))
    case t => (repeat' (refine (?_ : (_ : Prop)); first | with_reducible exact C_nil | with_reducible exact V_nil | with_reducible refine' C_cons ?_ ?_ ?_ | with_reducible refine' V_cons ?_ ?_ ?_ | (with_reducible refine' E_constS ?_; first | with_reducible exact PySem.W.KWk.none_list | with_reducible exact kk_s | with_reducible exact kk_t | with_reducible exact kk_st | with_reducible exact kk_s4 | with_reducible exact kk_t4 | with_reducible exact kk_ss | with_reducible exact kk_lst | with_reducible exact kk_fil | with_reducible exact kk_f) | with_reducible refine' E_const ?_ | with_reducible refine' E_name ?_ | with_reducible refine' E_bin ?_ ?_ ?_ | with_reducible refine' E_cmp ?_ ?_ ?_ ?_ ?_ | with_reducible refine' E_sub ?_ ?_ ?_ ?_ | with_reducible refine' E_list ?_ ?_ | with_reducible refine' E_tup ?_ ?_ | (with_reducible refine' E_callB ?_ ?k2 ?_ ?_; case k2 => assumption) | (with_reducible refine' E_callG ?_ ?k2 ?_ ?_; case k2 => assumption) | with_reducible refine' T_cmp ?_ ?_ ?_ ?_ ?_ | with_reducible refine' T_call ?_ | with_reducible refine' T_not ?_ | with_reducible refine' lf_mod ?_ ?_ ?_ | with_reducible refine' lf_div ?_ ?_ ?_ ?_ | with_reducible refine' lf_add ?_ ?_ | with_reducible refine' lf_sub ?_ ?_ ?_ | with_reducible refine' lf_mul ?_ ?_ ?_ ?_ | with_reducible refine' lf_pow ?_ ?_ ?_ ?_ | with_reducible refine' lf_and ?_ ?_ | with_reducible refine' lf_lt ?_ ?_ | with_reducible refine' lf_le ?_ ?_ | with_reducible refine' lf_eq ?_ ?_ | with_reducible refine' lf_ne ?_ ?_ | with_reducible refine' lf_chr ?_ ?_ | with_reducible refine' lf_str ?_ ?_ ?_ | with_reducible refine' lf_list ?_ ?_ ?_ | with_reducible refine' lf_tup ?_ ?_ ?_ | with_reducible exact bi_ord _ | with_reducible exact pcs_eq _ _ | with_reducible refine' bi_len _ ?_ | with_reducible exact lit _ | with_reducible rfl | rfl | omega | decide | (simp only [List.length_cons, List.length_nil]; omega)))
    case c => exact decide_eq_true h
    case e =>
      refine' E_callB rfl h1 ?v ?w
      case v => (repeat' (refine (?_ : (_ : Prop)); first | with_reducible exact C_nil | with_reducible exact V_nil | with_reducible refine' C_cons ?_ ?_ ?_ | with_reducible refine' V_cons ?_ ?_ ?_ | (with_reducible refine' E_constS ?_; first | with_reducible exact PySem.W.KWk.none_list | with_reducible exact kk_s | with_reducible exact kk_t | with_reducible exact kk_st | with_reducible exact kk_s4 | with_reducible exact kk_t4 | with_reducible exact kk_ss | with_reducible exact kk_lst | with_reducible exact kk_fil | with_reducible exact kk_f) | with_reducible refine' E_const ?_ | with_reducible refine' E_name ?_ | with_reducible refine' E_bin ?_ ?_ ?_ | with_reducible refine' E_cmp ?_ ?_ ?_ ?_ ?_ | with_reducible refine' E_sub ?_ ?_ ?_ ?_ | with_reducible refine' E_list ?_ ?_ | with_reducible refine' E_tup ?_ ?_ | (with_reducible refine' E_callB ?_ ?k2 ?_ ?_; case k2 => assumption) | (with_reducible refine' E_callG ?_ ?k2 ?_ ?_; case k2 => assumption) | with_reducible refine' T_cmp ?_ ?_ ?_ ?_ ?_ | with_reducible refine' T_call ?_ | with_reducible refine' T_not ?_ | with_reducible refine' lf_mod ?_ ?_ ?_ | with_reducible refine' lf_div ?_ ?_ ?_ ?_ | with_reducible refine' lf_add ?_ ?_ | with_reducible refine' lf_sub ?_ ?_ ?_ | with_reducible refine' lf_mul ?_ ?_ ?_ ?_ | with_reducible refine' lf_pow ?_ ?_ ?_ ?_ | with_reducible refine' lf_and ?_ ?_ | with_reducible refine' lf_lt ?_ ?_ | with_reducible refine' lf_le ?_ ?_ | with_reducible refine' lf_eq ?_ ?_ | with_reducible refine' lf_ne ?_ ?_ | with_reducible refine' lf_chr ?_ ?_ | with_reducible refine' lf_str ?_ ?_ ?_ | with_reducible refine' lf_list ?_ ?_ ?_ | with_reducible refine' lf_tup ?_ ?_ ?_ | with_reducible exact bi_ord _ | with_reducible exact pcs_eq _ _ | with_reducible refine' bi_len _ ?_ | with_reducible exact lit _ | with_reducible rfl | rfl | omega | decide | (simp only [List.length_cons, List.length_nil]; omega)))
      case w =>
        rw [bi_chr _ (by omega)]
        unfold nobody
        rw [if_pos h]
  · refine' D_def (ρ := [(Str.ofString "k", false, .int k)]) rfl rfl (X_seq (Q_next (S_iff ?t2 ?c2 (X_seq Q_nil)) (Q_ret (S_ret rfl ?e2))))
    case t2 => (repeat' (refine (?_ : (_ : Prop)); first | with_reducible exact C_nil | with_reducible exact V_nil | with_reducible refine' C_cons ?_ ?_ ?_ | with_reducible refine' V_cons ?_ ?_ ?_ | (with_reducible refine' E_constS ?_; first | with_reducible exact PySem.W.KWk.none_list | with_reducible exact kk_s | with_reducible exact kk_t | with_reducible exact kk_st | with_reducible exact kk_s4 | with_reducible exact kk_t4 | with_reducible exact kk_ss | with_reducible exact kk_lst | with_reducible exact kk_fil | with_reducible exact kk_f) | with_reducible refine' E_const ?_ | with_reducible refine' E_name ?_ | with_reducible refine' E_bin ?_ ?_ ?_ | with_reducible refine' E_cmp ?_ ?_ ?_ ?_ ?_ | with_reducible refine' E_sub ?_ ?_ ?_ ?_ | with_reducible refine' E_list ?_ ?_ | with_reducible refine' E_tup ?_ ?_ | (with_reducible refine' E_callB ?_ ?k2 ?_ ?_; case k2 => assumption) | (with_reducible refine' E_callG ?_ ?k2 ?_ ?_; case k2 => assumption) | with_reducible refine' T_cmp ?_ ?_ ?_ ?_ ?_ | with_reducible refine' T_call ?_ | with_reducible refine' T_not ?_ | with_reducible refine' lf_mod ?_ ?_ ?_ | with_reducible refine' lf_div ?_ ?_ ?_ ?_ | with_reducible refine' lf_add ?_ ?_ | with_reducible refine' lf_sub ?_ ?_ ?_ | with_reducible refine' lf_mul ?_ ?_ ?_ ?_ | with_reducible refine' lf_pow ?_ ?_ ?_ ?_ | with_reducible refine' lf_and ?_ ?_ | with_reducible refine' lf_lt ?_ ?_ | with_reducible refine' lf_le ?_ ?_ | with_reducible refine' lf_eq ?_ ?_ | with_reducible refine' lf_ne ?_ ?_ | with_reducible refine' lf_chr ?_ ?_ | with_reducible refine' lf_str ?_ ?_ ?_ | with_reducible refine' lf_list ?_ ?_ ?_ | with_reducible refine' lf_tup ?_ ?_ ?_ | with_reducible exact bi_ord _ | with_reducible exact pcs_eq _ _ | with_reducible refine' bi_len _ ?_ | with_reducible exact lit _ | with_reducible rfl | rfl | omega | decide | (simp only [List.length_cons, List.length_nil]; omega)))
    case c2 => exact decide_eq_false h
    case e2 =>
      refine' E_callB rfl h1 ?v2 ?w2
      case v2 => (repeat' (refine (?_ : (_ : Prop)); first | with_reducible exact C_nil | with_reducible exact V_nil | with_reducible refine' C_cons ?_ ?_ ?_ | with_reducible refine' V_cons ?_ ?_ ?_ | (with_reducible refine' E_constS ?_; first | with_reducible exact PySem.W.KWk.none_list | with_reducible exact kk_s | with_reducible exact kk_t | with_reducible exact kk_st | with_reducible exact kk_s4 | with_reducible exact kk_t4 | with_reducible exact kk_ss | with_reducible exact kk_lst | with_reducible exact kk_fil | with_reducible exact kk_f) | with_reducible refine' E_const ?_ | with_reducible refine' E_name ?_ | with_reducible refine' E_bin ?_ ?_ ?_ | with_reducible refine' E_cmp ?_ ?_ ?_ ?_ ?_ | with_reducible refine' E_sub ?_ ?_ ?_ ?_ | with_reducible refine' E_list ?_ ?_ | with_reducible refine' E_tup ?_ ?_ | (with_reducible refine' E_callB ?_ ?k2 ?_ ?_; case k2 => assumption) | (with_reducible refine' E_callG ?_ ?k2 ?_ ?_; case k2 => assumption) | with_reducible refine' T_cmp ?_ ?_ ?_ ?_ ?_ | with_reducible refine' T_call ?_ | with_reducible refine' T_not ?_ | with_reducible refine' lf_mod ?_ ?_ ?_ | with_reducible refine' lf_div ?_ ?_ ?_ ?_ | with_reducible refine' lf_add ?_ ?_ | with_reducible refine' lf_sub ?_ ?_ ?_ | with_reducible refine' lf_mul ?_ ?_ ?_ ?_ | with_reducible refine' lf_pow ?_ ?_ ?_ ?_ | with_reducible refine' lf_and ?_ ?_ | with_reducible refine' lf_lt ?_ ?_ | with_reducible refine' lf_le ?_ ?_ | with_reducible refine' lf_eq ?_ ?_ | with_reducible refine' lf_ne ?_ ?_ | with_reducible refine' lf_chr ?_ ?_ | with_reducible refine' lf_str ?_ ?_ ?_ | with_reducible refine' lf_list ?_ ?_ ?_ | with_reducible refine' lf_tup ?_ ?_ ?_ | with_reducible exact bi_ord _ | with_reducible exact pcs_eq _ _ | with_reducible refine' bi_len _ ?_ | with_reducible exact lit _ | with_reducible rfl | rfl | omega | decide | (simp only [List.length_cons, List.length_nil]; omega)))
      case w2 =>
        rw [bi_chr _ (by omega)]
        unfold nobody
        rw [if_neg h, Nat.add_assoc]
theorem number_ok {G : Tab} (h1 : G.lookup (Str.ofString "len") = none) (zs : List Int) (hz : zs.length ≤ 63) (p s : Nat) (hs : s < 1000000) : ∃ n : Nat, n < 1000000 ∧ fn G 4 [.list (zs.map .int), .int (p : Int), .int (s : Int)] = some (.int (n : Int)) := by
  have hlen : (zs.map D.int).length ≤ 1000000 := by rw [List.length_map]; omega
  by_cases h : p < zs.length
  · refine ⟨(((s : Int) + zs.getD p 0).fmod 1000000).toNat, ?_, ?_⟩
    · have := Int.fmod_lt_of_pos ((s : Int) + zs.getD p 0) (b := 1000000) (by decide)
      have h0 := Int.fmod_nonneg_of_pos ((s : Int) + zs.getD p 0) (b := 1000000) (by decide)
      omega
    · refine' D_def (ρ := [(Str.ofString "script", false, .list (zs.map .int)), (Str.ofString "place", false, .int p), (Str.ofString "start", false, .int s)]) rfl rfl (X_seq (Q_ret (S_ift (T_cmp ?a (E_callB rfl h1 ?b (bi_lenL _ hlen)) rfl rfl (pc_lt _ _)) ?c (X_seq (Q_ret (S_ret rfl (E_bin (E_bin ?d (E_sub rfl ?e ?f (pi_list _ _ ?g hlen)) ?g2) ?g3 ?g4)))))))
      case a => (repeat' (refine (?_ : (_ : Prop)); first | with_reducible exact C_nil | with_reducible exact V_nil | with_reducible refine' C_cons ?_ ?_ ?_ | with_reducible refine' V_cons ?_ ?_ ?_ | (with_reducible refine' E_constS ?_; first | with_reducible exact PySem.W.KWk.none_list | with_reducible exact kk_s | with_reducible exact kk_t | with_reducible exact kk_st | with_reducible exact kk_s4 | with_reducible exact kk_t4 | with_reducible exact kk_ss | with_reducible exact kk_lst | with_reducible exact kk_fil | with_reducible exact kk_f) | with_reducible refine' E_const ?_ | with_reducible refine' E_name ?_ | with_reducible refine' E_bin ?_ ?_ ?_ | with_reducible refine' E_cmp ?_ ?_ ?_ ?_ ?_ | with_reducible refine' E_sub ?_ ?_ ?_ ?_ | with_reducible refine' E_list ?_ ?_ | with_reducible refine' E_tup ?_ ?_ | (with_reducible refine' E_callB ?_ ?k2 ?_ ?_; case k2 => assumption) | (with_reducible refine' E_callG ?_ ?k2 ?_ ?_; case k2 => assumption) | with_reducible refine' T_cmp ?_ ?_ ?_ ?_ ?_ | with_reducible refine' T_call ?_ | with_reducible refine' T_not ?_ | with_reducible refine' lf_mod ?_ ?_ ?_ | with_reducible refine' lf_div ?_ ?_ ?_ ?_ | with_reducible refine' lf_add ?_ ?_ | with_reducible refine' lf_sub ?_ ?_ ?_ | with_reducible refine' lf_mul ?_ ?_ ?_ ?_ | with_reducible refine' lf_pow ?_ ?_ ?_ ?_ | with_reducible refine' lf_and ?_ ?_ | with_reducible refine' lf_lt ?_ ?_ | with_reducible refine' lf_le ?_ ?_ | with_reducible refine' lf_eq ?_ ?_ | with_reducible refine' lf_ne ?_ ?_ | with_reducible refine' lf_chr ?_ ?_ | with_reducible refine' lf_str ?_ ?_ ?_ | with_reducible refine' lf_list ?_ ?_ ?_ | with_reducible refine' lf_tup ?_ ?_ ?_ | with_reducible exact bi_ord _ | with_reducible exact pcs_eq _ _ | with_reducible refine' bi_len _ ?_ | with_reducible exact lit _ | with_reducible rfl | rfl | omega | decide | (simp only [List.length_cons, List.length_nil]; omega)))
      case b => (repeat' (refine (?_ : (_ : Prop)); first | with_reducible exact C_nil | with_reducible exact V_nil | with_reducible refine' C_cons ?_ ?_ ?_ | with_reducible refine' V_cons ?_ ?_ ?_ | (with_reducible refine' E_constS ?_; first | with_reducible exact PySem.W.KWk.none_list | with_reducible exact kk_s | with_reducible exact kk_t | with_reducible exact kk_st | with_reducible exact kk_s4 | with_reducible exact kk_t4 | with_reducible exact kk_ss | with_reducible exact kk_lst | with_reducible exact kk_fil | with_reducible exact kk_f) | with_reducible refine' E_const ?_ | with_reducible refine' E_name ?_ | with_reducible refine' E_bin ?_ ?_ ?_ | with_reducible refine' E_cmp ?_ ?_ ?_ ?_ ?_ | with_reducible refine' E_sub ?_ ?_ ?_ ?_ | with_reducible refine' E_list ?_ ?_ | with_reducible refine' E_tup ?_ ?_ | (with_reducible refine' E_callB ?_ ?k2 ?_ ?_; case k2 => assumption) | (with_reducible refine' E_callG ?_ ?k2 ?_ ?_; case k2 => assumption) | with_reducible refine' T_cmp ?_ ?_ ?_ ?_ ?_ | with_reducible refine' T_call ?_ | with_reducible refine' T_not ?_ | with_reducible refine' lf_mod ?_ ?_ ?_ | with_reducible refine' lf_div ?_ ?_ ?_ ?_ | with_reducible refine' lf_add ?_ ?_ | with_reducible refine' lf_sub ?_ ?_ ?_ | with_reducible refine' lf_mul ?_ ?_ ?_ ?_ | with_reducible refine' lf_pow ?_ ?_ ?_ ?_ | with_reducible refine' lf_and ?_ ?_ | with_reducible refine' lf_lt ?_ ?_ | with_reducible refine' lf_le ?_ ?_ | with_reducible refine' lf_eq ?_ ?_ | with_reducible refine' lf_ne ?_ ?_ | with_reducible refine' lf_chr ?_ ?_ | with_reducible refine' lf_str ?_ ?_ ?_ | with_reducible refine' lf_list ?_ ?_ ?_ | with_reducible refine' lf_tup ?_ ?_ ?_ | with_reducible exact bi_ord _ | with_reducible exact pcs_eq _ _ | with_reducible refine' bi_len _ ?_ | with_reducible exact lit _ | with_reducible rfl | rfl | omega | decide | (simp only [List.length_cons, List.length_nil]; omega)))
      case c => exact decide_eq_true (by rw [List.length_map]; exact h)
      case d => (repeat' (refine (?_ : (_ : Prop)); first | with_reducible exact C_nil | with_reducible exact V_nil | with_reducible refine' C_cons ?_ ?_ ?_ | with_reducible refine' V_cons ?_ ?_ ?_ | (with_reducible refine' E_constS ?_; first | with_reducible exact PySem.W.KWk.none_list | with_reducible exact kk_s | with_reducible exact kk_t | with_reducible exact kk_st | with_reducible exact kk_s4 | with_reducible exact kk_t4 | with_reducible exact kk_ss | with_reducible exact kk_lst | with_reducible exact kk_fil | with_reducible exact kk_f) | with_reducible refine' E_const ?_ | with_reducible refine' E_name ?_ | with_reducible refine' E_bin ?_ ?_ ?_ | with_reducible refine' E_cmp ?_ ?_ ?_ ?_ ?_ | with_reducible refine' E_sub ?_ ?_ ?_ ?_ | with_reducible refine' E_list ?_ ?_ | with_reducible refine' E_tup ?_ ?_ | (with_reducible refine' E_callB ?_ ?k2 ?_ ?_; case k2 => assumption) | (with_reducible refine' E_callG ?_ ?k2 ?_ ?_; case k2 => assumption) | with_reducible refine' T_cmp ?_ ?_ ?_ ?_ ?_ | with_reducible refine' T_call ?_ | with_reducible refine' T_not ?_ | with_reducible refine' lf_mod ?_ ?_ ?_ | with_reducible refine' lf_div ?_ ?_ ?_ ?_ | with_reducible refine' lf_add ?_ ?_ | with_reducible refine' lf_sub ?_ ?_ ?_ | with_reducible refine' lf_mul ?_ ?_ ?_ ?_ | with_reducible refine' lf_pow ?_ ?_ ?_ ?_ | with_reducible refine' lf_and ?_ ?_ | with_reducible refine' lf_lt ?_ ?_ | with_reducible refine' lf_le ?_ ?_ | with_reducible refine' lf_eq ?_ ?_ | with_reducible refine' lf_ne ?_ ?_ | with_reducible refine' lf_chr ?_ ?_ | with_reducible refine' lf_str ?_ ?_ ?_ | with_reducible refine' lf_list ?_ ?_ ?_ | with_reducible refine' lf_tup ?_ ?_ ?_ | with_reducible exact bi_ord _ | with_reducible exact pcs_eq _ _ | with_reducible refine' bi_len _ ?_ | with_reducible exact lit _ | with_reducible rfl | rfl | omega | decide | (simp only [List.length_cons, List.length_nil]; omega)))
      case e => (repeat' (refine (?_ : (_ : Prop)); first | with_reducible exact C_nil | with_reducible exact V_nil | with_reducible refine' C_cons ?_ ?_ ?_ | with_reducible refine' V_cons ?_ ?_ ?_ | (with_reducible refine' E_constS ?_; first | with_reducible exact PySem.W.KWk.none_list | with_reducible exact kk_s | with_reducible exact kk_t | with_reducible exact kk_st | with_reducible exact kk_s4 | with_reducible exact kk_t4 | with_reducible exact kk_ss | with_reducible exact kk_lst | with_reducible exact kk_fil | with_reducible exact kk_f) | with_reducible refine' E_const ?_ | with_reducible refine' E_name ?_ | with_reducible refine' E_bin ?_ ?_ ?_ | with_reducible refine' E_cmp ?_ ?_ ?_ ?_ ?_ | with_reducible refine' E_sub ?_ ?_ ?_ ?_ | with_reducible refine' E_list ?_ ?_ | with_reducible refine' E_tup ?_ ?_ | (with_reducible refine' E_callB ?_ ?k2 ?_ ?_; case k2 => assumption) | (with_reducible refine' E_callG ?_ ?k2 ?_ ?_; case k2 => assumption) | with_reducible refine' T_cmp ?_ ?_ ?_ ?_ ?_ | with_reducible refine' T_call ?_ | with_reducible refine' T_not ?_ | with_reducible refine' lf_mod ?_ ?_ ?_ | with_reducible refine' lf_div ?_ ?_ ?_ ?_ | with_reducible refine' lf_add ?_ ?_ | with_reducible refine' lf_sub ?_ ?_ ?_ | with_reducible refine' lf_mul ?_ ?_ ?_ ?_ | with_reducible refine' lf_pow ?_ ?_ ?_ ?_ | with_reducible refine' lf_and ?_ ?_ | with_reducible refine' lf_lt ?_ ?_ | with_reducible refine' lf_le ?_ ?_ | with_reducible refine' lf_eq ?_ ?_ | with_reducible refine' lf_ne ?_ ?_ | with_reducible refine' lf_chr ?_ ?_ | with_reducible refine' lf_str ?_ ?_ ?_ | with_reducible refine' lf_list ?_ ?_ ?_ | with_reducible refine' lf_tup ?_ ?_ ?_ | with_reducible exact bi_ord _ | with_reducible exact pcs_eq _ _ | with_reducible refine' bi_len _ ?_ | with_reducible exact lit _ | with_reducible rfl | rfl | omega | decide | (simp only [List.length_cons, List.length_nil]; omega)))
      case f => (repeat' (refine (?_ : (_ : Prop)); first | with_reducible exact C_nil | with_reducible exact V_nil | with_reducible refine' C_cons ?_ ?_ ?_ | with_reducible refine' V_cons ?_ ?_ ?_ | (with_reducible refine' E_constS ?_; first | with_reducible exact PySem.W.KWk.none_list | with_reducible exact kk_s | with_reducible exact kk_t | with_reducible exact kk_st | with_reducible exact kk_s4 | with_reducible exact kk_t4 | with_reducible exact kk_ss | with_reducible exact kk_lst | with_reducible exact kk_fil | with_reducible exact kk_f) | with_reducible refine' E_const ?_ | with_reducible refine' E_name ?_ | with_reducible refine' E_bin ?_ ?_ ?_ | with_reducible refine' E_cmp ?_ ?_ ?_ ?_ ?_ | with_reducible refine' E_sub ?_ ?_ ?_ ?_ | with_reducible refine' E_list ?_ ?_ | with_reducible refine' E_tup ?_ ?_ | (with_reducible refine' E_callB ?_ ?k2 ?_ ?_; case k2 => assumption) | (with_reducible refine' E_callG ?_ ?k2 ?_ ?_; case k2 => assumption) | with_reducible refine' T_cmp ?_ ?_ ?_ ?_ ?_ | with_reducible refine' T_call ?_ | with_reducible refine' T_not ?_ | with_reducible refine' lf_mod ?_ ?_ ?_ | with_reducible refine' lf_div ?_ ?_ ?_ ?_ | with_reducible refine' lf_add ?_ ?_ | with_reducible refine' lf_sub ?_ ?_ ?_ | with_reducible refine' lf_mul ?_ ?_ ?_ ?_ | with_reducible refine' lf_pow ?_ ?_ ?_ ?_ | with_reducible refine' lf_and ?_ ?_ | with_reducible refine' lf_lt ?_ ?_ | with_reducible refine' lf_le ?_ ?_ | with_reducible refine' lf_eq ?_ ?_ | with_reducible refine' lf_ne ?_ ?_ | with_reducible refine' lf_chr ?_ ?_ | with_reducible refine' lf_str ?_ ?_ ?_ | with_reducible refine' lf_list ?_ ?_ ?_ | with_reducible refine' lf_tup ?_ ?_ ?_ | with_reducible exact bi_ord _ | with_reducible exact pcs_eq _ _ | with_reducible refine' bi_len _ ?_ | with_reducible exact lit _ | with_reducible rfl | rfl | omega | decide | (simp only [List.length_cons, List.length_nil]; omega)))
      case g => rw [List.length_map]; exact h
      case g2 =>
        have e : (zs.map D.int).getD p .none = .int (zs.getD p 0) := by
          rw [List.getD_eq_getElem?_getD, List.getD_eq_getElem?_getD, List.getElem?_map, List.getElem?_eq_getElem h]
          rfl
        rw [e]
        rfl
      case g3 => (repeat' (refine (?_ : (_ : Prop)); first | with_reducible exact C_nil | with_reducible exact V_nil | with_reducible refine' C_cons ?_ ?_ ?_ | with_reducible refine' V_cons ?_ ?_ ?_ | (with_reducible refine' E_constS ?_; first | with_reducible exact PySem.W.KWk.none_list | with_reducible exact kk_s | with_reducible exact kk_t | with_reducible exact kk_st | with_reducible exact kk_s4 | with_reducible exact kk_t4 | with_reducible exact kk_ss | with_reducible exact kk_lst | with_reducible exact kk_fil | with_reducible exact kk_f) | with_reducible refine' E_const ?_ | with_reducible refine' E_name ?_ | with_reducible refine' E_bin ?_ ?_ ?_ | with_reducible refine' E_cmp ?_ ?_ ?_ ?_ ?_ | with_reducible refine' E_sub ?_ ?_ ?_ ?_ | with_reducible refine' E_list ?_ ?_ | with_reducible refine' E_tup ?_ ?_ | (with_reducible refine' E_callB ?_ ?k2 ?_ ?_; case k2 => assumption) | (with_reducible refine' E_callG ?_ ?k2 ?_ ?_; case k2 => assumption) | with_reducible refine' T_cmp ?_ ?_ ?_ ?_ ?_ | with_reducible refine' T_call ?_ | with_reducible refine' T_not ?_ | with_reducible refine' lf_mod ?_ ?_ ?_ | with_reducible refine' lf_div ?_ ?_ ?_ ?_ | with_reducible refine' lf_add ?_ ?_ | with_reducible refine' lf_sub ?_ ?_ ?_ | with_reducible refine' lf_mul ?_ ?_ ?_ ?_ | with_reducible refine' lf_pow ?_ ?_ ?_ ?_ | with_reducible refine' lf_and ?_ ?_ | with_reducible refine' lf_lt ?_ ?_ | with_reducible refine' lf_le ?_ ?_ | with_reducible refine' lf_eq ?_ ?_ | with_reducible refine' lf_ne ?_ ?_ | with_reducible refine' lf_chr ?_ ?_ | with_reducible refine' lf_str ?_ ?_ ?_ | with_reducible refine' lf_list ?_ ?_ ?_ | with_reducible refine' lf_tup ?_ ?_ ?_ | with_reducible exact bi_ord _ | with_reducible exact pcs_eq _ _ | with_reducible refine' bi_len _ ?_ | with_reducible exact lit _ | with_reducible rfl | rfl | omega | decide | (simp only [List.length_cons, List.length_nil]; omega)))
      case g4 =>
        have h0 := Int.fmod_nonneg_of_pos ((s : Int) + zs.getD p 0) (b := 1000000) (by decide)
        show some (D.int (((s : Int) + zs.getD p 0).fmod 1000000)) = _
        rw [Int.toNat_of_nonneg h0]
  · refine ⟨s, hs, ?_⟩
    refine' D_def (ρ := [(Str.ofString "script", false, .list (zs.map .int)), (Str.ofString "place", false, .int p), (Str.ofString "start", false, .int s)]) rfl rfl (X_seq (Q_next (S_iff (T_cmp ?a2 (E_callB rfl h1 ?b2 (bi_lenL _ hlen)) rfl rfl (pc_lt _ _)) ?c2 (X_seq Q_nil)) (Q_ret (S_retN rfl rfl))))
    case a2 => (repeat' (refine (?_ : (_ : Prop)); first | with_reducible exact C_nil | with_reducible exact V_nil | with_reducible refine' C_cons ?_ ?_ ?_ | with_reducible refine' V_cons ?_ ?_ ?_ | (with_reducible refine' E_constS ?_; first | with_reducible exact PySem.W.KWk.none_list | with_reducible exact kk_s | with_reducible exact kk_t | with_reducible exact kk_st | with_reducible exact kk_s4 | with_reducible exact kk_t4 | with_reducible exact kk_ss | with_reducible exact kk_lst | with_reducible exact kk_fil | with_reducible exact kk_f) | with_reducible refine' E_const ?_ | with_reducible refine' E_name ?_ | with_reducible refine' E_bin ?_ ?_ ?_ | with_reducible refine' E_cmp ?_ ?_ ?_ ?_ ?_ | with_reducible refine' E_sub ?_ ?_ ?_ ?_ | with_reducible refine' E_list ?_ ?_ | with_reducible refine' E_tup ?_ ?_ | (with_reducible refine' E_callB ?_ ?k2 ?_ ?_; case k2 => assumption) | (with_reducible refine' E_callG ?_ ?k2 ?_ ?_; case k2 => assumption) | with_reducible refine' T_cmp ?_ ?_ ?_ ?_ ?_ | with_reducible refine' T_call ?_ | with_reducible refine' T_not ?_ | with_reducible refine' lf_mod ?_ ?_ ?_ | with_reducible refine' lf_div ?_ ?_ ?_ ?_ | with_reducible refine' lf_add ?_ ?_ | with_reducible refine' lf_sub ?_ ?_ ?_ | with_reducible refine' lf_mul ?_ ?_ ?_ ?_ | with_reducible refine' lf_pow ?_ ?_ ?_ ?_ | with_reducible refine' lf_and ?_ ?_ | with_reducible refine' lf_lt ?_ ?_ | with_reducible refine' lf_le ?_ ?_ | with_reducible refine' lf_eq ?_ ?_ | with_reducible refine' lf_ne ?_ ?_ | with_reducible refine' lf_chr ?_ ?_ | with_reducible refine' lf_str ?_ ?_ ?_ | with_reducible refine' lf_list ?_ ?_ ?_ | with_reducible refine' lf_tup ?_ ?_ ?_ | with_reducible exact bi_ord _ | with_reducible exact pcs_eq _ _ | with_reducible refine' bi_len _ ?_ | with_reducible exact lit _ | with_reducible rfl | rfl | omega | decide | (simp only [List.length_cons, List.length_nil]; omega)))
    case b2 => (repeat' (refine (?_ : (_ : Prop)); first | with_reducible exact C_nil | with_reducible exact V_nil | with_reducible refine' C_cons ?_ ?_ ?_ | with_reducible refine' V_cons ?_ ?_ ?_ | (with_reducible refine' E_constS ?_; first | with_reducible exact PySem.W.KWk.none_list | with_reducible exact kk_s | with_reducible exact kk_t | with_reducible exact kk_st | with_reducible exact kk_s4 | with_reducible exact kk_t4 | with_reducible exact kk_ss | with_reducible exact kk_lst | with_reducible exact kk_fil | with_reducible exact kk_f) | with_reducible refine' E_const ?_ | with_reducible refine' E_name ?_ | with_reducible refine' E_bin ?_ ?_ ?_ | with_reducible refine' E_cmp ?_ ?_ ?_ ?_ ?_ | with_reducible refine' E_sub ?_ ?_ ?_ ?_ | with_reducible refine' E_list ?_ ?_ | with_reducible refine' E_tup ?_ ?_ | (with_reducible refine' E_callB ?_ ?k2 ?_ ?_; case k2 => assumption) | (with_reducible refine' E_callG ?_ ?k2 ?_ ?_; case k2 => assumption) | with_reducible refine' T_cmp ?_ ?_ ?_ ?_ ?_ | with_reducible refine' T_call ?_ | with_reducible refine' T_not ?_ | with_reducible refine' lf_mod ?_ ?_ ?_ | with_reducible refine' lf_div ?_ ?_ ?_ ?_ | with_reducible refine' lf_add ?_ ?_ | with_reducible refine' lf_sub ?_ ?_ ?_ | with_reducible refine' lf_mul ?_ ?_ ?_ ?_ | with_reducible refine' lf_pow ?_ ?_ ?_ ?_ | with_reducible refine' lf_and ?_ ?_ | with_reducible refine' lf_lt ?_ ?_ | with_reducible refine' lf_le ?_ ?_ | with_reducible refine' lf_eq ?_ ?_ | with_reducible refine' lf_ne ?_ ?_ | with_reducible refine' lf_chr ?_ ?_ | with_reducible refine' lf_str ?_ ?_ ?_ | with_reducible refine' lf_list ?_ ?_ ?_ | with_reducible refine' lf_tup ?_ ?_ ?_ | with_reducible exact bi_ord _ | with_reducible exact pcs_eq _ _ | with_reducible refine' bi_len _ ?_ | with_reducible exact lit _ | with_reducible rfl | rfl | omega | decide | (simp only [List.length_cons, List.length_nil]; omega)))
    case c2 => exact decide_eq_false (by rw [List.length_map]; exact h)
theorem c4_ok {G : Tab} (h1 : G.lookup (Str.ofString "ord") = none) (c : Nat) : fn G 3 [.str [c]] = some (.bool (c4 c)) := by
  by_cases h : c < 64976
  · refine' D_def (ρ := [(Str.ofString "code", false, .str [c])]) rfl rfl (X_seq (Q_next (S_assign rfl rfl ?e) (Q_ret (S_ift ?t ?c (X_seq (Q_ret (S_ret rfl ?r)))))))
    case e => (repeat' (refine (?_ : (_ : Prop)); first | with_reducible exact C_nil | with_reducible exact V_nil | with_reducible refine' C_cons ?_ ?_ ?_ | with_reducible refine' V_cons ?_ ?_ ?_ | (with_reducible refine' E_constS ?_; first | with_reducible exact PySem.W.KWk.none_list | with_reducible exact kk_s | with_reducible exact kk_t | with_reducible exact kk_st | with_reducible exact kk_s4 | with_reducible exact kk_t4 | with_reducible exact kk_ss | with_reducible exact kk_lst | with_reducible exact kk_fil | with_reducible exact kk_f) | with_reducible refine' E_const ?_ | with_reducible refine' E_name ?_ | with_reducible refine' E_bin ?_ ?_ ?_ | with_reducible refine' E_cmp ?_ ?_ ?_ ?_ ?_ | with_reducible refine' E_sub ?_ ?_ ?_ ?_ | with_reducible refine' E_list ?_ ?_ | with_reducible refine' E_tup ?_ ?_ | (with_reducible refine' E_callB ?_ ?k2 ?_ ?_; case k2 => assumption) | (with_reducible refine' E_callG ?_ ?k2 ?_ ?_; case k2 => assumption) | with_reducible refine' T_cmp ?_ ?_ ?_ ?_ ?_ | with_reducible refine' T_call ?_ | with_reducible refine' T_not ?_ | with_reducible refine' lf_mod ?_ ?_ ?_ | with_reducible refine' lf_div ?_ ?_ ?_ ?_ | with_reducible refine' lf_add ?_ ?_ | with_reducible refine' lf_sub ?_ ?_ ?_ | with_reducible refine' lf_mul ?_ ?_ ?_ ?_ | with_reducible refine' lf_pow ?_ ?_ ?_ ?_ | with_reducible refine' lf_and ?_ ?_ | with_reducible refine' lf_lt ?_ ?_ | with_reducible refine' lf_le ?_ ?_ | with_reducible refine' lf_eq ?_ ?_ | with_reducible refine' lf_ne ?_ ?_ | with_reducible refine' lf_chr ?_ ?_ | with_reducible refine' lf_str ?_ ?_ ?_ | with_reducible refine' lf_list ?_ ?_ ?_ | with_reducible refine' lf_tup ?_ ?_ ?_ | with_reducible exact bi_ord _ | with_reducible exact pcs_eq _ _ | with_reducible refine' bi_len _ ?_ | with_reducible exact lit _ | with_reducible rfl | rfl | omega | decide | (simp only [List.length_cons, List.length_nil]; omega)))
    case t => (repeat' (refine (?_ : (_ : Prop)); first | with_reducible exact C_nil | with_reducible exact V_nil | with_reducible refine' C_cons ?_ ?_ ?_ | with_reducible refine' V_cons ?_ ?_ ?_ | (with_reducible refine' E_constS ?_; first | with_reducible exact PySem.W.KWk.none_list | with_reducible exact kk_s | with_reducible exact kk_t | with_reducible exact kk_st | with_reducible exact kk_s4 | with_reducible exact kk_t4 | with_reducible exact kk_ss | with_reducible exact kk_lst | with_reducible exact kk_fil | with_reducible exact kk_f) | with_reducible refine' E_const ?_ | with_reducible refine' E_name ?_ | with_reducible refine' E_bin ?_ ?_ ?_ | with_reducible refine' E_cmp ?_ ?_ ?_ ?_ ?_ | with_reducible refine' E_sub ?_ ?_ ?_ ?_ | with_reducible refine' E_list ?_ ?_ | with_reducible refine' E_tup ?_ ?_ | (with_reducible refine' E_callB ?_ ?k2 ?_ ?_; case k2 => assumption) | (with_reducible refine' E_callG ?_ ?k2 ?_ ?_; case k2 => assumption) | with_reducible refine' T_cmp ?_ ?_ ?_ ?_ ?_ | with_reducible refine' T_call ?_ | with_reducible refine' T_not ?_ | with_reducible refine' lf_mod ?_ ?_ ?_ | with_reducible refine' lf_div ?_ ?_ ?_ ?_ | with_reducible refine' lf_add ?_ ?_ | with_reducible refine' lf_sub ?_ ?_ ?_ | with_reducible refine' lf_mul ?_ ?_ ?_ ?_ | with_reducible refine' lf_pow ?_ ?_ ?_ ?_ | with_reducible refine' lf_and ?_ ?_ | with_reducible refine' lf_lt ?_ ?_ | with_reducible refine' lf_le ?_ ?_ | with_reducible refine' lf_eq ?_ ?_ | with_reducible refine' lf_ne ?_ ?_ | with_reducible refine' lf_chr ?_ ?_ | with_reducible refine' lf_str ?_ ?_ ?_ | with_reducible refine' lf_list ?_ ?_ ?_ | with_reducible refine' lf_tup ?_ ?_ ?_ | with_reducible exact bi_ord _ | with_reducible exact pcs_eq _ _ | with_reducible refine' bi_len _ ?_ | with_reducible exact lit _ | with_reducible rfl | rfl | omega | decide | (simp only [List.length_cons, List.length_nil]; omega)))
    case c => exact decide_eq_true h
    case r =>
      unfold c4
      rw [if_pos h]
      (repeat' (refine (?_ : (_ : Prop)); first | with_reducible exact C_nil | with_reducible exact V_nil | with_reducible refine' C_cons ?_ ?_ ?_ | with_reducible refine' V_cons ?_ ?_ ?_ | (with_reducible refine' E_constS ?_; first | with_reducible exact PySem.W.KWk.none_list | with_reducible exact kk_s | with_reducible exact kk_t | with_reducible exact kk_st | with_reducible exact kk_s4 | with_reducible exact kk_t4 | with_reducible exact kk_ss | with_reducible exact kk_lst | with_reducible exact kk_fil | with_reducible exact kk_f) | with_reducible refine' E_const ?_ | with_reducible refine' E_name ?_ | with_reducible refine' E_bin ?_ ?_ ?_ | with_reducible refine' E_cmp ?_ ?_ ?_ ?_ ?_ | with_reducible refine' E_sub ?_ ?_ ?_ ?_ | with_reducible refine' E_list ?_ ?_ | with_reducible refine' E_tup ?_ ?_ | (with_reducible refine' E_callB ?_ ?k2 ?_ ?_; case k2 => assumption) | (with_reducible refine' E_callG ?_ ?k2 ?_ ?_; case k2 => assumption) | with_reducible refine' T_cmp ?_ ?_ ?_ ?_ ?_ | with_reducible refine' T_call ?_ | with_reducible refine' T_not ?_ | with_reducible refine' lf_mod ?_ ?_ ?_ | with_reducible refine' lf_div ?_ ?_ ?_ ?_ | with_reducible refine' lf_add ?_ ?_ | with_reducible refine' lf_sub ?_ ?_ ?_ | with_reducible refine' lf_mul ?_ ?_ ?_ ?_ | with_reducible refine' lf_pow ?_ ?_ ?_ ?_ | with_reducible refine' lf_and ?_ ?_ | with_reducible refine' lf_lt ?_ ?_ | with_reducible refine' lf_le ?_ ?_ | with_reducible refine' lf_eq ?_ ?_ | with_reducible refine' lf_ne ?_ ?_ | with_reducible refine' lf_chr ?_ ?_ | with_reducible refine' lf_str ?_ ?_ ?_ | with_reducible refine' lf_list ?_ ?_ ?_ | with_reducible refine' lf_tup ?_ ?_ ?_ | with_reducible exact bi_ord _ | with_reducible exact pcs_eq _ _ | with_reducible refine' bi_len _ ?_ | with_reducible exact lit _ | with_reducible rfl | rfl | omega | decide | (simp only [List.length_cons, List.length_nil]; omega)))
  · by_cases h' : c < 65008
    · refine' D_def (ρ := [(Str.ofString "code", false, .str [c])]) rfl rfl (X_seq (Q_next (S_assign rfl rfl ?e2) (Q_next (S_iff ?t2 ?c2 (X_seq Q_nil)) (Q_ret (S_ift ?t3 ?c3 (X_seq (Q_ret (S_ret rfl ?r2))))))))
      case e2 => (repeat' (refine (?_ : (_ : Prop)); first | with_reducible exact C_nil | with_reducible exact V_nil | with_reducible refine' C_cons ?_ ?_ ?_ | with_reducible refine' V_cons ?_ ?_ ?_ | (with_reducible refine' E_constS ?_; first | with_reducible exact PySem.W.KWk.none_list | with_reducible exact kk_s | with_reducible exact kk_t | with_reducible exact kk_st | with_reducible exact kk_s4 | with_reducible exact kk_t4 | with_reducible exact kk_ss | with_reducible exact kk_lst | with_reducible exact kk_fil | with_reducible exact kk_f) | with_reducible refine' E_const ?_ | with_reducible refine' E_name ?_ | with_reducible refine' E_bin ?_ ?_ ?_ | with_reducible refine' E_cmp ?_ ?_ ?_ ?_ ?_ | with_reducible refine' E_sub ?_ ?_ ?_ ?_ | with_reducible refine' E_list ?_ ?_ | with_reducible refine' E_tup ?_ ?_ | (with_reducible refine' E_callB ?_ ?k2 ?_ ?_; case k2 => assumption) | (with_reducible refine' E_callG ?_ ?k2 ?_ ?_; case k2 => assumption) | with_reducible refine' T_cmp ?_ ?_ ?_ ?_ ?_ | with_reducible refine' T_call ?_ | with_reducible refine' T_not ?_ | with_reducible refine' lf_mod ?_ ?_ ?_ | with_reducible refine' lf_div ?_ ?_ ?_ ?_ | with_reducible refine' lf_add ?_ ?_ | with_reducible refine' lf_sub ?_ ?_ ?_ | with_reducible refine' lf_mul ?_ ?_ ?_ ?_ | with_reducible refine' lf_pow ?_ ?_ ?_ ?_ | with_reducible refine' lf_and ?_ ?_ | with_reducible refine' lf_lt ?_ ?_ | with_reducible refine' lf_le ?_ ?_ | with_reducible refine' lf_eq ?_ ?_ | with_reducible refine' lf_ne ?_ ?_ | with_reducible refine' lf_chr ?_ ?_ | with_reducible refine' lf_str ?_ ?_ ?_ | with_reducible refine' lf_list ?_ ?_ ?_ | with_reducible refine' lf_tup ?_ ?_ ?_ | with_reducible exact bi_ord _ | with_reducible exact pcs_eq _ _ | with_reducible refine' bi_len _ ?_ | with_reducible exact lit _ | with_reducible rfl | rfl | omega | decide | (simp only [List.length_cons, List.length_nil]; omega)))
      case t2 => (repeat' (refine (?_ : (_ : Prop)); first | with_reducible exact C_nil | with_reducible exact V_nil | with_reducible refine' C_cons ?_ ?_ ?_ | with_reducible refine' V_cons ?_ ?_ ?_ | (with_reducible refine' E_constS ?_; first | with_reducible exact PySem.W.KWk.none_list | with_reducible exact kk_s | with_reducible exact kk_t | with_reducible exact kk_st | with_reducible exact kk_s4 | with_reducible exact kk_t4 | with_reducible exact kk_ss | with_reducible exact kk_lst | with_reducible exact kk_fil | with_reducible exact kk_f) | with_reducible refine' E_const ?_ | with_reducible refine' E_name ?_ | with_reducible refine' E_bin ?_ ?_ ?_ | with_reducible refine' E_cmp ?_ ?_ ?_ ?_ ?_ | with_reducible refine' E_sub ?_ ?_ ?_ ?_ | with_reducible refine' E_list ?_ ?_ | with_reducible refine' E_tup ?_ ?_ | (with_reducible refine' E_callB ?_ ?k2 ?_ ?_; case k2 => assumption) | (with_reducible refine' E_callG ?_ ?k2 ?_ ?_; case k2 => assumption) | with_reducible refine' T_cmp ?_ ?_ ?_ ?_ ?_ | with_reducible refine' T_call ?_ | with_reducible refine' T_not ?_ | with_reducible refine' lf_mod ?_ ?_ ?_ | with_reducible refine' lf_div ?_ ?_ ?_ ?_ | with_reducible refine' lf_add ?_ ?_ | with_reducible refine' lf_sub ?_ ?_ ?_ | with_reducible refine' lf_mul ?_ ?_ ?_ ?_ | with_reducible refine' lf_pow ?_ ?_ ?_ ?_ | with_reducible refine' lf_and ?_ ?_ | with_reducible refine' lf_lt ?_ ?_ | with_reducible refine' lf_le ?_ ?_ | with_reducible refine' lf_eq ?_ ?_ | with_reducible refine' lf_ne ?_ ?_ | with_reducible refine' lf_chr ?_ ?_ | with_reducible refine' lf_str ?_ ?_ ?_ | with_reducible refine' lf_list ?_ ?_ ?_ | with_reducible refine' lf_tup ?_ ?_ ?_ | with_reducible exact bi_ord _ | with_reducible exact pcs_eq _ _ | with_reducible refine' bi_len _ ?_ | with_reducible exact lit _ | with_reducible rfl | rfl | omega | decide | (simp only [List.length_cons, List.length_nil]; omega)))
      case c2 => exact decide_eq_false h
      case t3 => (repeat' (refine (?_ : (_ : Prop)); first | with_reducible exact C_nil | with_reducible exact V_nil | with_reducible refine' C_cons ?_ ?_ ?_ | with_reducible refine' V_cons ?_ ?_ ?_ | (with_reducible refine' E_constS ?_; first | with_reducible exact PySem.W.KWk.none_list | with_reducible exact kk_s | with_reducible exact kk_t | with_reducible exact kk_st | with_reducible exact kk_s4 | with_reducible exact kk_t4 | with_reducible exact kk_ss | with_reducible exact kk_lst | with_reducible exact kk_fil | with_reducible exact kk_f) | with_reducible refine' E_const ?_ | with_reducible refine' E_name ?_ | with_reducible refine' E_bin ?_ ?_ ?_ | with_reducible refine' E_cmp ?_ ?_ ?_ ?_ ?_ | with_reducible refine' E_sub ?_ ?_ ?_ ?_ | with_reducible refine' E_list ?_ ?_ | with_reducible refine' E_tup ?_ ?_ | (with_reducible refine' E_callB ?_ ?k2 ?_ ?_; case k2 => assumption) | (with_reducible refine' E_callG ?_ ?k2 ?_ ?_; case k2 => assumption) | with_reducible refine' T_cmp ?_ ?_ ?_ ?_ ?_ | with_reducible refine' T_call ?_ | with_reducible refine' T_not ?_ | with_reducible refine' lf_mod ?_ ?_ ?_ | with_reducible refine' lf_div ?_ ?_ ?_ ?_ | with_reducible refine' lf_add ?_ ?_ | with_reducible refine' lf_sub ?_ ?_ ?_ | with_reducible refine' lf_mul ?_ ?_ ?_ ?_ | with_reducible refine' lf_pow ?_ ?_ ?_ ?_ | with_reducible refine' lf_and ?_ ?_ | with_reducible refine' lf_lt ?_ ?_ | with_reducible refine' lf_le ?_ ?_ | with_reducible refine' lf_eq ?_ ?_ | with_reducible refine' lf_ne ?_ ?_ | with_reducible refine' lf_chr ?_ ?_ | with_reducible refine' lf_str ?_ ?_ ?_ | with_reducible refine' lf_list ?_ ?_ ?_ | with_reducible refine' lf_tup ?_ ?_ ?_ | with_reducible exact bi_ord _ | with_reducible exact pcs_eq _ _ | with_reducible refine' bi_len _ ?_ | with_reducible exact lit _ | with_reducible rfl | rfl | omega | decide | (simp only [List.length_cons, List.length_nil]; omega)))
      case c3 => exact decide_eq_true h'
      case r2 =>
        unfold c4
        rw [if_neg h, if_pos h']
        (repeat' (refine (?_ : (_ : Prop)); first | with_reducible exact C_nil | with_reducible exact V_nil | with_reducible refine' C_cons ?_ ?_ ?_ | with_reducible refine' V_cons ?_ ?_ ?_ | (with_reducible refine' E_constS ?_; first | with_reducible exact PySem.W.KWk.none_list | with_reducible exact kk_s | with_reducible exact kk_t | with_reducible exact kk_st | with_reducible exact kk_s4 | with_reducible exact kk_t4 | with_reducible exact kk_ss | with_reducible exact kk_lst | with_reducible exact kk_fil | with_reducible exact kk_f) | with_reducible refine' E_const ?_ | with_reducible refine' E_name ?_ | with_reducible refine' E_bin ?_ ?_ ?_ | with_reducible refine' E_cmp ?_ ?_ ?_ ?_ ?_ | with_reducible refine' E_sub ?_ ?_ ?_ ?_ | with_reducible refine' E_list ?_ ?_ | with_reducible refine' E_tup ?_ ?_ | (with_reducible refine' E_callB ?_ ?k2 ?_ ?_; case k2 => assumption) | (with_reducible refine' E_callG ?_ ?k2 ?_ ?_; case k2 => assumption) | with_reducible refine' T_cmp ?_ ?_ ?_ ?_ ?_ | with_reducible refine' T_call ?_ | with_reducible refine' T_not ?_ | with_reducible refine' lf_mod ?_ ?_ ?_ | with_reducible refine' lf_div ?_ ?_ ?_ ?_ | with_reducible refine' lf_add ?_ ?_ | with_reducible refine' lf_sub ?_ ?_ ?_ | with_reducible refine' lf_mul ?_ ?_ ?_ ?_ | with_reducible refine' lf_pow ?_ ?_ ?_ ?_ | with_reducible refine' lf_and ?_ ?_ | with_reducible refine' lf_lt ?_ ?_ | with_reducible refine' lf_le ?_ ?_ | with_reducible refine' lf_eq ?_ ?_ | with_reducible refine' lf_ne ?_ ?_ | with_reducible refine' lf_chr ?_ ?_ | with_reducible refine' lf_str ?_ ?_ ?_ | with_reducible refine' lf_list ?_ ?_ ?_ | with_reducible refine' lf_tup ?_ ?_ ?_ | with_reducible exact bi_ord _ | with_reducible exact pcs_eq _ _ | with_reducible refine' bi_len _ ?_ | with_reducible exact lit _ | with_reducible rfl | rfl | omega | decide | (simp only [List.length_cons, List.length_nil]; omega)))
    · refine' D_def (ρ := [(Str.ofString "code", false, .str [c])]) rfl rfl (X_seq (Q_next (S_assign rfl rfl ?e4) (Q_next (S_iff ?t4 ?c4 (X_seq Q_nil)) (Q_next (S_iff ?t5 ?c5 (X_seq Q_nil)) (Q_ret (S_ret rfl (E_cmp ?a6 ?f6 rfl ?i6 ?g6)))))))
      case e4 => (repeat' (refine (?_ : (_ : Prop)); first | with_reducible exact C_nil | with_reducible exact V_nil | with_reducible refine' C_cons ?_ ?_ ?_ | with_reducible refine' V_cons ?_ ?_ ?_ | (with_reducible refine' E_constS ?_; first | with_reducible exact PySem.W.KWk.none_list | with_reducible exact kk_s | with_reducible exact kk_t | with_reducible exact kk_st | with_reducible exact kk_s4 | with_reducible exact kk_t4 | with_reducible exact kk_ss | with_reducible exact kk_lst | with_reducible exact kk_fil | with_reducible exact kk_f) | with_reducible refine' E_const ?_ | with_reducible refine' E_name ?_ | with_reducible refine' E_bin ?_ ?_ ?_ | with_reducible refine' E_cmp ?_ ?_ ?_ ?_ ?_ | with_reducible refine' E_sub ?_ ?_ ?_ ?_ | with_reducible refine' E_list ?_ ?_ | with_reducible refine' E_tup ?_ ?_ | (with_reducible refine' E_callB ?_ ?k2 ?_ ?_; case k2 => assumption) | (with_reducible refine' E_callG ?_ ?k2 ?_ ?_; case k2 => assumption) | with_reducible refine' T_cmp ?_ ?_ ?_ ?_ ?_ | with_reducible refine' T_call ?_ | with_reducible refine' T_not ?_ | with_reducible refine' lf_mod ?_ ?_ ?_ | with_reducible refine' lf_div ?_ ?_ ?_ ?_ | with_reducible refine' lf_add ?_ ?_ | with_reducible refine' lf_sub ?_ ?_ ?_ | with_reducible refine' lf_mul ?_ ?_ ?_ ?_ | with_reducible refine' lf_pow ?_ ?_ ?_ ?_ | with_reducible refine' lf_and ?_ ?_ | with_reducible refine' lf_lt ?_ ?_ | with_reducible refine' lf_le ?_ ?_ | with_reducible refine' lf_eq ?_ ?_ | with_reducible refine' lf_ne ?_ ?_ | with_reducible refine' lf_chr ?_ ?_ | with_reducible refine' lf_str ?_ ?_ ?_ | with_reducible refine' lf_list ?_ ?_ ?_ | with_reducible refine' lf_tup ?_ ?_ ?_ | with_reducible exact bi_ord _ | with_reducible exact pcs_eq _ _ | with_reducible refine' bi_len _ ?_ | with_reducible exact lit _ | with_reducible rfl | rfl | omega | decide | (simp only [List.length_cons, List.length_nil]; omega)))
      case t4 => (repeat' (refine (?_ : (_ : Prop)); first | with_reducible exact C_nil | with_reducible exact V_nil | with_reducible refine' C_cons ?_ ?_ ?_ | with_reducible refine' V_cons ?_ ?_ ?_ | (with_reducible refine' E_constS ?_; first | with_reducible exact PySem.W.KWk.none_list | with_reducible exact kk_s | with_reducible exact kk_t | with_reducible exact kk_st | with_reducible exact kk_s4 | with_reducible exact kk_t4 | with_reducible exact kk_ss | with_reducible exact kk_lst | with_reducible exact kk_fil | with_reducible exact kk_f) | with_reducible refine' E_const ?_ | with_reducible refine' E_name ?_ | with_reducible refine' E_bin ?_ ?_ ?_ | with_reducible refine' E_cmp ?_ ?_ ?_ ?_ ?_ | with_reducible refine' E_sub ?_ ?_ ?_ ?_ | with_reducible refine' E_list ?_ ?_ | with_reducible refine' E_tup ?_ ?_ | (with_reducible refine' E_callB ?_ ?k2 ?_ ?_; case k2 => assumption) | (with_reducible refine' E_callG ?_ ?k2 ?_ ?_; case k2 => assumption) | with_reducible refine' T_cmp ?_ ?_ ?_ ?_ ?_ | with_reducible refine' T_call ?_ | with_reducible refine' T_not ?_ | with_reducible refine' lf_mod ?_ ?_ ?_ | with_reducible refine' lf_div ?_ ?_ ?_ ?_ | with_reducible refine' lf_add ?_ ?_ | with_reducible refine' lf_sub ?_ ?_ ?_ | with_reducible refine' lf_mul ?_ ?_ ?_ ?_ | with_reducible refine' lf_pow ?_ ?_ ?_ ?_ | with_reducible refine' lf_and ?_ ?_ | with_reducible refine' lf_lt ?_ ?_ | with_reducible refine' lf_le ?_ ?_ | with_reducible refine' lf_eq ?_ ?_ | with_reducible refine' lf_ne ?_ ?_ | with_reducible refine' lf_chr ?_ ?_ | with_reducible refine' lf_str ?_ ?_ ?_ | with_reducible refine' lf_list ?_ ?_ ?_ | with_reducible refine' lf_tup ?_ ?_ ?_ | with_reducible exact bi_ord _ | with_reducible exact pcs_eq _ _ | with_reducible refine' bi_len _ ?_ | with_reducible exact lit _ | with_reducible rfl | rfl | omega | decide | (simp only [List.length_cons, List.length_nil]; omega)))
      case c4 => exact decide_eq_false h
      case t5 => (repeat' (refine (?_ : (_ : Prop)); first | with_reducible exact C_nil | with_reducible exact V_nil | with_reducible refine' C_cons ?_ ?_ ?_ | with_reducible refine' V_cons ?_ ?_ ?_ | (with_reducible refine' E_constS ?_; first | with_reducible exact PySem.W.KWk.none_list | with_reducible exact kk_s | with_reducible exact kk_t | with_reducible exact kk_st | with_reducible exact kk_s4 | with_reducible exact kk_t4 | with_reducible exact kk_ss | with_reducible exact kk_lst | with_reducible exact kk_fil | with_reducible exact kk_f) | with_reducible refine' E_const ?_ | with_reducible refine' E_name ?_ | with_reducible refine' E_bin ?_ ?_ ?_ | with_reducible refine' E_cmp ?_ ?_ ?_ ?_ ?_ | with_reducible refine' E_sub ?_ ?_ ?_ ?_ | with_reducible refine' E_list ?_ ?_ | with_reducible refine' E_tup ?_ ?_ | (with_reducible refine' E_callB ?_ ?k2 ?_ ?_; case k2 => assumption) | (with_reducible refine' E_callG ?_ ?k2 ?_ ?_; case k2 => assumption) | with_reducible refine' T_cmp ?_ ?_ ?_ ?_ ?_ | with_reducible refine' T_call ?_ | with_reducible refine' T_not ?_ | with_reducible refine' lf_mod ?_ ?_ ?_ | with_reducible refine' lf_div ?_ ?_ ?_ ?_ | with_reducible refine' lf_add ?_ ?_ | with_reducible refine' lf_sub ?_ ?_ ?_ | with_reducible refine' lf_mul ?_ ?_ ?_ ?_ | with_reducible refine' lf_pow ?_ ?_ ?_ ?_ | with_reducible refine' lf_and ?_ ?_ | with_reducible refine' lf_lt ?_ ?_ | with_reducible refine' lf_le ?_ ?_ | with_reducible refine' lf_eq ?_ ?_ | with_reducible refine' lf_ne ?_ ?_ | with_reducible refine' lf_chr ?_ ?_ | with_reducible refine' lf_str ?_ ?_ ?_ | with_reducible refine' lf_list ?_ ?_ ?_ | with_reducible refine' lf_tup ?_ ?_ ?_ | with_reducible exact bi_ord _ | with_reducible exact pcs_eq _ _ | with_reducible refine' bi_len _ ?_ | with_reducible exact lit _ | with_reducible rfl | rfl | omega | decide | (simp only [List.length_cons, List.length_nil]; omega)))
      case c5 => exact decide_eq_false h'
      case a6 => (repeat' (refine (?_ : (_ : Prop)); first | with_reducible exact C_nil | with_reducible exact V_nil | with_reducible refine' C_cons ?_ ?_ ?_ | with_reducible refine' V_cons ?_ ?_ ?_ | (with_reducible refine' E_constS ?_; first | with_reducible exact PySem.W.KWk.none_list | with_reducible exact kk_s | with_reducible exact kk_t | with_reducible exact kk_st | with_reducible exact kk_s4 | with_reducible exact kk_t4 | with_reducible exact kk_ss | with_reducible exact kk_lst | with_reducible exact kk_fil | with_reducible exact kk_f) | with_reducible refine' E_const ?_ | with_reducible refine' E_name ?_ | with_reducible refine' E_bin ?_ ?_ ?_ | with_reducible refine' E_cmp ?_ ?_ ?_ ?_ ?_ | with_reducible refine' E_sub ?_ ?_ ?_ ?_ | with_reducible refine' E_list ?_ ?_ | with_reducible refine' E_tup ?_ ?_ | (with_reducible refine' E_callB ?_ ?k2 ?_ ?_; case k2 => assumption) | (with_reducible refine' E_callG ?_ ?k2 ?_ ?_; case k2 => assumption) | with_reducible refine' T_cmp ?_ ?_ ?_ ?_ ?_ | with_reducible refine' T_call ?_ | with_reducible refine' T_not ?_ | with_reducible refine' lf_mod ?_ ?_ ?_ | with_reducible refine' lf_div ?_ ?_ ?_ ?_ | with_reducible refine' lf_add ?_ ?_ | with_reducible refine' lf_sub ?_ ?_ ?_ | with_reducible refine' lf_mul ?_ ?_ ?_ ?_ | with_reducible refine' lf_pow ?_ ?_ ?_ ?_ | with_reducible refine' lf_and ?_ ?_ | with_reducible refine' lf_lt ?_ ?_ | with_reducible refine' lf_le ?_ ?_ | with_reducible refine' lf_eq ?_ ?_ | with_reducible refine' lf_ne ?_ ?_ | with_reducible refine' lf_chr ?_ ?_ | with_reducible refine' lf_str ?_ ?_ ?_ | with_reducible refine' lf_list ?_ ?_ ?_ | with_reducible refine' lf_tup ?_ ?_ ?_ | with_reducible exact bi_ord _ | with_reducible exact pcs_eq _ _ | with_reducible refine' bi_len _ ?_ | with_reducible exact lit _ | with_reducible rfl | rfl | omega | decide | (simp only [List.length_cons, List.length_nil]; omega)))
      case f6 => (repeat' (refine (?_ : (_ : Prop)); first | with_reducible exact C_nil | with_reducible exact V_nil | with_reducible refine' C_cons ?_ ?_ ?_ | with_reducible refine' V_cons ?_ ?_ ?_ | (with_reducible refine' E_constS ?_; first | with_reducible exact PySem.W.KWk.none_list | with_reducible exact kk_s | with_reducible exact kk_t | with_reducible exact kk_st | with_reducible exact kk_s4 | with_reducible exact kk_t4 | with_reducible exact kk_ss | with_reducible exact kk_lst | with_reducible exact kk_fil | with_reducible exact kk_f) | with_reducible refine' E_const ?_ | with_reducible refine' E_name ?_ | with_reducible refine' E_bin ?_ ?_ ?_ | with_reducible refine' E_cmp ?_ ?_ ?_ ?_ ?_ | with_reducible refine' E_sub ?_ ?_ ?_ ?_ | with_reducible refine' E_list ?_ ?_ | with_reducible refine' E_tup ?_ ?_ | (with_reducible refine' E_callB ?_ ?k2 ?_ ?_; case k2 => assumption) | (with_reducible refine' E_callG ?_ ?k2 ?_ ?_; case k2 => assumption) | with_reducible refine' T_cmp ?_ ?_ ?_ ?_ ?_ | with_reducible refine' T_call ?_ | with_reducible refine' T_not ?_ | with_reducible refine' lf_mod ?_ ?_ ?_ | with_reducible refine' lf_div ?_ ?_ ?_ ?_ | with_reducible refine' lf_add ?_ ?_ | with_reducible refine' lf_sub ?_ ?_ ?_ | with_reducible refine' lf_mul ?_ ?_ ?_ ?_ | with_reducible refine' lf_pow ?_ ?_ ?_ ?_ | with_reducible refine' lf_and ?_ ?_ | with_reducible refine' lf_lt ?_ ?_ | with_reducible refine' lf_le ?_ ?_ | with_reducible refine' lf_eq ?_ ?_ | with_reducible refine' lf_ne ?_ ?_ | with_reducible refine' lf_chr ?_ ?_ | with_reducible refine' lf_str ?_ ?_ ?_ | with_reducible refine' lf_list ?_ ?_ ?_ | with_reducible refine' lf_tup ?_ ?_ ?_ | with_reducible exact bi_ord _ | with_reducible exact pcs_eq _ _ | with_reducible refine' bi_len _ ?_ | with_reducible exact lit _ | with_reducible rfl | rfl | omega | decide | (simp only [List.length_cons, List.length_nil]; omega)))
      case i6 => rfl
      case g6 =>
        unfold c4
        rw [if_neg h, if_neg h']
        exact c4_in _
end Row3
end Mine
end
section
open PySem PySem.W PyProof.Rows
open PySem.StrLaws PySem.Builtin PySem.Builtin.Str
set_option Elab.async false
set_option maxRecDepth 10000
namespace Mine
noncomputable def inter (y : List Nat) : List (List Nat) → List Nat
  | [] => []
  | [p] => p
  | p :: q :: r => p ++ (y ++ inter y (q :: r))
theorem at_iff {x : List Nat} {c : Nat} {y : List Nat} {k : Nat} : At (toStr x) (toStr (c :: y)) x.length k ↔ (x.drop k).take (y.length + 1) = c :: y := by
  unfold At
  rw [subAt_eq, toStr_length]
  have e : (toStr x).cps.toList = x := by simp [toStr]
  have e' : (toStr (c :: y)).cps.toList = c :: y := by simp [toStr]
  rw [e, e', List.length_cons]
  constructor
  · intro h
    exact eq_of_beq h.2
  · intro h
    refine ⟨?_, by rw [h]; exact beq_self_eq_true _⟩
    have := congrArg List.length h
    rw [List.length_take, List.length_drop, List.length_cons] at this
    omega
theorem at_head {x : List Nat} {c : Nat} {y : List Nat} {k : Nat} (h : At (toStr x) (toStr (c :: y)) x.length k) : x[k]? = some c := by
  have := congrArg (·[0]?) (at_iff.mp h)
  simp only [List.getElem?_take, List.getElem?_drop] at this
  simpa using this
theorem chain_parts {x : List Nat} {c : Nat} {y : List Nat} : ∀ (A : List (List Nat)) (a : Nat) (cuts : List Nat) (f : Nat), A ≠ [] → (∀ p ∈ A, c ∉ p) → a ≤ x.length → x.drop a = inter (c :: y) A →
    ChainG (toStr x) (toStr (c :: y)) x.length a cuts f → (∀ k, f ≤ k → ¬ At (toStr x) (toStr (c :: y)) x.length k) → cuts.length + 1 = A.length ∧ partsFrom (toStr x) (toStr (c :: y)).length a cuts = A.map toStr
  | [], _, _, _, h, _, _, _, _, _ => absurd rfl h
  | [p], a, cuts, f, _, hp, ha, hx, hc, hf => by
    have hx : x.drop a = p := hx
    cases cuts with
    | nil =>
      refine ⟨rfl, ?_⟩
      show [strSub (toStr x) a (toStr x).length] = _
      rw [List.map_singleton]
      congr 1
      unfold strSub toStr
      rw [← hx]
      refine congrArg _ ?_
      apply Array.toList_inj.mp
      simp only [Str.length, Array.toList_extract, List.extract_eq_take_drop, List.size_toArray]
      exact List.take_of_length_le (by simp)
    | cons k r =>
      obtain ⟨h1, h2, _, _⟩ := hc
      have := at_head h2
      have hin : c ∈ p := by
        rw [← hx]
        refine List.mem_of_getElem? (i := k - a) ?_
        rw [List.getElem?_drop, show a + (k - a) = k by omega]
        exact this
      exact absurd hin (hp p (List.mem_singleton.mpr rfl))
  | p :: q :: r, a, cuts, f, _, hp, ha, hx, hc, hf => by
    have hx : x.drop a = p ++ ((c :: y) ++ inter (c :: y) (q :: r)) := hx
    have hlen := congrArg List.length hx
    simp only [List.length_drop, List.length_append, List.length_cons] at hlen
    have hd : x.drop (a + p.length) = (c :: y) ++ inter (c :: y) (q :: r) := by rw [← List.drop_drop, hx, List.drop_left]
    have hat : At (toStr x) (toStr (c :: y)) x.length (a + p.length) := by
      rw [at_iff, hd]
      exact List.take_left (l₁ := c :: y)
    have hno : ∀ k, a ≤ k → k < a + p.length → ¬ At (toStr x) (toStr (c :: y)) x.length k := by
      intro k h1 h2 h3
      have := at_head h3
      have hin : c ∈ p := by
        refine List.mem_of_getElem? (i := k - a) ?_
        have e := congrArg (·[k - a]?) hx
        simp only [List.getElem?_drop] at e
        rw [show a + (k - a) = k by omega, this, List.getElem?_append_left (by omega)] at e
        exact e.symm
      exact absurd hin (hp p List.mem_cons_self)
    cases cuts with
    | nil => exact absurd hat (hf _ (by have : f = a := hc; omega))
    | cons k s =>
      obtain ⟨h1, h2, h3, h4⟩ := hc
      have ek : k = a + p.length := by
        rcases Nat.lt_trichotomy k (a + p.length) with h | h | h
        · exact absurd h2 (hno k h1 h)
        · exact h
        · exact absurd hat (h3 _ (by omega) h)
      subst ek
      have hw : (toStr (c :: y)).length = y.length + 1 := by rw [toStr_length]; rfl
      obtain ⟨i1, i2⟩ := chain_parts (q :: r) (a + p.length + (toStr (c :: y)).length) s f (by simp) (fun z hz => hp z (List.mem_cons_of_mem _ hz)) (by rw [hw]; omega)
        (by rw [hw, ← List.drop_drop, hd]; exact List.drop_left (l₁ := c :: y)) h4 hf
      refine ⟨by simp only [List.length_cons] at i1 ⊢; omega, ?_⟩
      show strSub (toStr x) a (a + p.length) :: partsFrom (toStr x) (toStr (c :: y)).length (a + p.length + (toStr (c :: y)).length) s = _
      rw [i2, List.map_cons]
      congr 1
      refine congrArg Str.mk (Array.toList_inj.mp ?_)
      have e2 := strSub_toList (toStr x) a (a + p.length)
      refine e2.trans ?_
      have e : (toStr x).cps.toList = x := by simp [toStr]
      rw [e, hx, show a + p.length - a = p.length by omega, List.take_left]
theorem occ_inter {c : Nat} {y : List Nat} {A : List (List Nat)} (hA : A ≠ []) (hp : ∀ p ∈ A, c ∉ p) :
    (occurrences (toStr (inter (c :: y) A)) (toStr (c :: y)) 0 (toStr (inter (c :: y) A)).length ((toStr (inter (c :: y) A)).length + 1)).length + 1 = A.length ∧
    partsBetween (toStr (inter (c :: y) A)) (occurrences (toStr (inter (c :: y) A)) (toStr (c :: y)) 0 (toStr (inter (c :: y) A)).length ((toStr (inter (c :: y) A)).length + 1)) (toStr (c :: y)).length = A.map toStr := by
  obtain ⟨f, h1, h2⟩ := occ_tight (toStr (inter (c :: y) A)) (toStr (c :: y)) (by rw [toStr_length]; simp)
  rw [partsBetween_eq]
  exact chain_parts A 0 _ f hA hp (Nat.zero_le _) rfl (by rw [toStr_length] at h1 ⊢; exact h1) (by rw [toStr_length] at h2; exact h2)
theorem one_of_len {A : List (List Nat)} (h : 0 + 1 = A.length) : ∃ p, A = [p] := by
  cases A with
  | nil => cases h
  | cons p r => cases r with
    | nil => exact ⟨p, rfl⟩
    | cons q r => simp only [List.length_cons] at h; omega
theorem strKind_min {x y : Str} (h : (y.cps.all (· < 256)) = true) : ¬ Builtin.Str.strKind x < Builtin.Str.strKind y := by
  have : Builtin.Str.strKind y = 1 := by unfold Builtin.Str.strKind; rw [if_pos h]
  rw [this]
  unfold Builtin.Str.strKind
  split
  · omega
  · split <;> omega
theorem split_inter {c : Nat} {y : List Nat} {A : List (List Nat)} (hA : A ≠ []) (hp : ∀ p ∈ A, c ∉ p) (hy : ((c :: y).all (· < 256)) = true) : Txt.split (toStr (inter (c :: y) A)) (toStr (c :: y)) = A.map toStr := by
  obtain ⟨h1, h2⟩ := occ_inter (y := y) hA hp
  have hmany : ∀ p q r, A = p :: q :: r → (y.length + 1) ≤ (inter (c :: y) A).length := by
    intro p q r e
    subst e
    show _ ≤ (p ++ ((c :: y) ++ inter (c :: y) (q :: r))).length
    simp only [List.length_append, List.length_cons]
    omega
  unfold Txt.split
  split
  · rename_i hg
    rw [Bool.or_eq_true, decide_eq_true_eq, decide_eq_true_eq] at hg
    rcases hg with hg | hg
    · rw [toStr_length, toStr_length, List.length_cons] at hg
      match A, hA with
      | [p], _ => rfl
      | p :: q :: r, _ => have := hmany p q r rfl; omega
    · exact absurd hg (strKind_min (by simpa [toStr] using hy))
  · split
    · rename_i he
      rw [List.isEmpty_iff.mp he] at h1
      obtain ⟨p, rfl⟩ := one_of_len h1
      rfl
    · exact h2
end Mine
end
section
open PySem PySem.W PyProof.Rows
set_option Elab.async false
set_option maxRecDepth 10000
namespace Mine
section
variable {G : Tb} {n m : Fu} {sc : List (Str × NameKind)} {ρ ρ' : PEnv} {o o1 o2 : Bool} {a b d : D} {p q : Pos} {k : Nat}
theorem E_constS {s : Str} {t : List Nat} (h : s.cps.toList = t) : pe G (.s n) sc (.Constant (.str s) k p) ρ = some (true, .str t) := by
  subst h; rfl
end
theorem kk_q : (Str.ofString "?").cps.toList = [63] := by rfl
theorem kk_rn : (Str.ofString "\r\n").cps.toList = [13, 10] := by rfl
theorem kk_r : (Str.ofString "\r").cps.toList = [13] := by rfl
theorem kk_n : (Str.ofString "\n").cps.toList = [10] := by rfl
theorem kk_nr : (Str.ofString "\n\r").cps.toList = [10, 13] := by rfl
theorem kk_fil : (Str.ofString "fil").cps.toList = [102, 105, 108] := by rfl
theorem kk_f : (Str.ofString "f").cps.toList = [102] := by rfl
theorem kk_if : (Str.ofString "if").cps.toList = [105, 102] := by rfl
theorem kk_lf : (Str.ofString "lf").cps.toList = [108, 102] := by rfl
theorem kk_li : (Str.ofString "li").cps.toList = [108, 105] := by rfl
theorem kk_il : (Str.ofString "il").cps.toList = [105, 108] := by rfl
theorem kk_dd : (Str.ofString "..").cps.toList = [46, 46] := by rfl
theorem pcs_eq (a b : List Nat) : pcmp .Eq (.str a) (.str b) = some (a == b) := rfl
theorem me_joinF {α : Type} (l : List α) (c : α → List Nat) (h : (l.map c).flatten.length + l.length ≤ 1000000) : pmeth (Str.ofString "join") (.str []) [.list (l.map fun k => D.str (c k))] = some (.str (l.map c).flatten) := by
  have e : (l.map fun k => D.str (c k)) = (l.map c).map .str := by rw [List.map_map]; rfl
  rw [e, me_join _ (by simpa using h)]
theorem cut_lo {α : Type} (l : List α) (i : Nat) : pcut l none (some (i : Int)) = l.take i := by
  unfold pcut
  simp only [Option.elim, PySem.clipAt_nat, List.drop_zero, Nat.sub_zero]
  rcases Nat.le_total i l.length with h | h
  · rw [Nat.min_eq_left h]
  · rw [Nat.min_eq_right h, List.take_length, List.take_of_length_le h]
theorem cut_hi {α : Type} (l : List α) (i : Nat) : pcut l (some (i : Int)) none = l.drop i := by
  unfold pcut
  simp only [Option.elim, PySem.clipAt_nat]
  rcases Nat.le_total i l.length with h | h
  · rw [Nat.min_eq_left h]
    exact List.take_of_length_le (by simp)
  · rw [Nat.min_eq_right h, List.drop_length, List.drop_of_length_le h]; simp
theorem small_nat {i : Nat} (h : i ≤ 1000000) : small? (i : Int) = true := by
  have : (-(2 ^ 62) : Int) ≤ (i : Int) ∧ (i : Int) < 2 ^ 62 := by omega
  unfold small?
  rw [decide_eq_true this.1, decide_eq_true this.2]; rfl
section
variable {x y : Int} {i j : Nat}
theorem sl_lo {l : List D} (e : x = (i : Int)) (h : i ≤ 1000000) (hl : l.length ≤ 1000000) : pslice (.list l) (none) (some x) = some (.list (l.take i)) := by
  subst e
  show (if (((none : Option Int) : Option Int).all small? && ((some (i : Int)) : Option Int).all small?) = true then (if l.length ≤ 1000000 then some (D.list (pcut l (none) (some (i : Int)))) else none) else none) = _
  rw [if_pos, if_pos hl, cut_lo]
  all_goals first | (rw [Option.all_none, Option.all_some, small_nat h]; rfl) | (rw [Option.all_some, Option.all_none, small_nat h]; rfl)
theorem sl_hi {l : List D} (e : x = (i : Int)) (h : i ≤ 1000000) (hl : l.length ≤ 1000000) : pslice (.list l) (some x) (none) = some (.list (l.drop i)) := by
  subst e
  show (if (((some (i : Int)) : Option Int).all small? && ((none : Option Int) : Option Int).all small?) = true then (if l.length ≤ 1000000 then some (D.list (pcut l (some (i : Int)) (none))) else none) else none) = _
  rw [if_pos, if_pos hl, cut_hi]
  all_goals first | (rw [Option.all_none, Option.all_some, small_nat h]; rfl) | (rw [Option.all_some, Option.all_none, small_nat h]; rfl)
theorem sS_lo {l : List Nat} (e : x = (i : Int)) (h : i ≤ 1000000) (hl : l.length ≤ 1000000) : pslice (.str l) (none) (some x) = some (.str (l.take i)) := by
  subst e
  show (if (((none : Option Int) : Option Int).all small? && ((some (i : Int)) : Option Int).all small?) = true then (if l.length ≤ 1000000 then some (D.str (pcut l (none) (some (i : Int)))) else none) else none) = _
  rw [if_pos, if_pos hl, cut_lo]
  all_goals first | (rw [Option.all_none, Option.all_some, small_nat h]; rfl) | (rw [Option.all_some, Option.all_none, small_nat h]; rfl)
theorem sS_hi {l : List Nat} (e : x = (i : Int)) (h : i ≤ 1000000) (hl : l.length ≤ 1000000) : pslice (.str l) (some x) (none) = some (.str (l.drop i)) := by
  subst e
  show (if (((some (i : Int)) : Option Int).all small? && ((none : Option Int) : Option Int).all small?) = true then (if l.length ≤ 1000000 then some (D.str (pcut l (some (i : Int)) (none))) else none) else none) = _
  rw [if_pos, if_pos hl, cut_hi]
  all_goals first | (rw [Option.all_none, Option.all_some, small_nat h]; rfl) | (rw [Option.all_some, Option.all_none, small_nat h]; rfl)
end
theorem me_split {A : List (List Nat)} (hA : A ≠ []) (hp : ∀ p ∈ A, 13 ∉ p) (hl : (inter [13, 10] A).length ≤ 10000) : pmeth (Str.ofString "split") (.str (inter [13, 10] A)) [.str [13, 10]] = some (.list (A.map .str)) := by
  unfold pmeth
  dsimp only
  rw [if_neg (by decide +kernel), if_pos (by decide +kernel), if_pos (by simp; omega), split_inter hA hp (by decide)]
  rw [List.map_map]
  refine congrArg (fun l => some (D.list l)) (List.map_congr_left fun x _ => ?_)
  simp [toStr]
inductive Deep : Fu → D → Prop
  | int {n i} : Deep n (.int i)
  | str {n x} : Deep n (.str x)
  | list {n l} : (∀ d ∈ l, Deep n d) → Deep (.s n) (.list l)
  | tup {n l} : (∀ d ∈ l, Deep n d) → Deep (.s n) (.tup l)
theorem deqs_refl {f : D → D → Option Bool} : ∀ l : List D, (∀ d ∈ l, f d d = some true) → deqs f l l = some true
  | [], _ => rfl
  | d :: l, h => by
    show (f d d).bind (fun x => (deqs f l l).map fun y => x && y) = _
    rw [h d List.mem_cons_self, deqs_refl l fun x hx => h x (List.mem_cons_of_mem _ hx)]
    rfl
theorem deq_refl {n : Fu} {d : D} (h : Deep n d) : deqN n d d = some true := by
  induction h with
  | int => unfold deqN; simp
  | str => unfold deqN; simp
  | list h ih => unfold deqN; rw [if_pos rfl]; exact deqs_refl _ ih
  | tup h ih => unfold deqN; rw [if_pos rfl]; exact deqs_refl _ ih
end Mine
end
section
open PySem PySem.W PyProof.Rows
set_option Elab.async false
set_option maxRecDepth 10000
namespace Mine
section
variable {G : Tb} {n m : Fu} {sc : List (Str × NameKind)} {ρ ρ' : PEnv} {o o1 o2 : Bool} {a b d : D} {p q : Pos} {k : Nat}
theorem E_iteS {t x y : Expr} {c : Bool} {dx dy : List Nat} (ht : pt (pe G n sc) n t ρ = some c) (hx : pe G n sc x ρ = some (o, .str dx)) (hy : pe G n sc y ρ = some (o, .str dy)) : pe G (.s n) sc (.IfExp t x y p) ρ = some (o, .str (if c = true then dx else dy)) := by
  refine E_if ht ?_
  cases c
  · exact hy
  · exact hx
end
section
variable {f : Stmt → PEnv → Option (PEnv × PFlow)} {st : Stmt} {rest : List Stmt} {ρ ρ1 ρ' : PEnv} {z : Option (PEnv × PFlow)}
end
end Mine
end
section
open PySem PySem.W PyProof.Rows
set_option Elab.async false
set_option maxRecDepth 10000
namespace Mine
noncomputable def Ends (z : Option (PEnv × PFlow)) (P : PEnv → PFlow → Prop) : Prop := ∃ ρ' fl, z = some (ρ', fl) ∧ P ρ' fl
section
variable {G : Tb} {n : Fu} {sc : List (Str × NameKind)} {ρ : PEnv} {d : D} {p : Pos}
theorem E_nameC {x : Str} (h : ρ.lookup x = some (false, d)) : pe G (.s n) sc (.Name x p) ρ = some (true, d) := E_name h
end
section
variable {G : Tb} {n m : Fu} {sc : List (Str × NameKind)} {ρ ρ1 ρ' : PEnv} {ev : Ev} {mu : List Str} {d : D} {P : PEnv → PFlow → Prop} {f : Stmt → PEnv → Option (PEnv × PFlow)} {st : Stmt} {rest : List Stmt} {run : List Stmt → PEnv → Option (PEnv × PFlow)}
theorem N_def {params : List Str} {body : List Stmt} {ds : List D} (ρ : PEnv) (hl : ds.length = params.length) (hρ : ((params.zip ds).map fun p => (p.1, false, p.2)) = ρ) (h : Ends (px sc (pe G fuL sc) fuL mu fuL body ρ) fun _ fl => fl = .ret d) : pdef G params sc mu body ds = some d := by
  obtain ⟨ρ', fl, h, rfl⟩ := h
  exact D_def hl hρ h
theorem N_seq {sts : List Stmt} (h : Ends (pseq (pxStep sc ev m mu (px sc ev m mu n)) sts ρ) P) : Ends (px sc ev m mu (.s n) sts ρ) P := h
theorem N_nil (h : P ρ PFlow.next) : Ends (pseq f [] ρ) P := ⟨_, _, rfl, h⟩
theorem N_to (ρ' : PEnv) (h : f st ρ = some (ρ1, PFlow.next)) (e : ρ1 = ρ') (hr : Ends (pseq f rest ρ') P) : Ends (pseq f (st :: rest) ρ) P := by
  subst e
  obtain ⟨ρ2, fl, h2, hp⟩ := hr
  exact ⟨ρ2, fl, Q_next h h2, hp⟩
theorem N_ret (h : f st ρ = some (ρ', .ret d)) (hp : P ρ' (.ret d)) : Ends (pseq f (st :: rest) ρ) P := ⟨_, _, Q_ret h, hp⟩
theorem N_ift {t : Expr} {x y : List Stmt} {c : Bool} {r : Pos} (ht : pt ev n t ρ = some c) (hc : c = true) (h : Ends (run x ρ) P) : Ends (pxStep sc ev n mu run (.If t x y r) ρ) P := by
  obtain ⟨a, b, h, hp⟩ := h
  exact ⟨a, b, S_ift ht hc h, hp⟩
theorem N_iff {t : Expr} {x y : List Stmt} {c : Bool} {r : Pos} (ht : pt ev n t ρ = some c) (hc : c = false) (h : Ends (run y ρ) P) : Ends (pxStep sc ev n mu run (.If t x y r) ρ) P := by
  obtain ⟨a, b, h, hp⟩ := h
  exact ⟨a, b, S_iff ht hc h, hp⟩
theorem loop_run {β : Type} {x : Str} {body : PEnv → Option (PEnv × PFlow)} (g : β → D) (st : List β → D → PEnv → PEnv) (K : PEnv → Prop) (hset : ∀ p e ex d, (st p e ex).set x (false, d) = st p d ex) :
    ∀ (post pre : List β) (e : D) (ex : PEnv), K ex → (∀ pre' y post' ex, pre ++ post = pre' ++ y :: post' → K ex → Ends (body (st pre' (g y) ex)) fun ρ' fl => fl = .next ∧ ∃ ex', ρ' = st (pre' ++ [y]) (g y) ex' ∧ K ex') →
      ∃ e' ex', ploop x body (post.map g) (st pre e ex) = some (st (pre ++ post) e' ex', PFlow.next) ∧ K ex'
  | [], pre, e, ex, hk, _ => ⟨e, ex, by rw [List.append_nil]; rfl, hk⟩
  | y :: post, pre, e, ex, hk, h => by
    obtain ⟨ρ', fl, h1, rfl, ex', rfl, hk'⟩ := h pre y post ex rfl hk
    obtain ⟨e2, ex2, h2, hk2⟩ := loop_run g st K hset post (pre ++ [y]) (g y) ex' hk' (fun a b c d e => h a b c d (by rw [← e]; simp))
    refine ⟨e2, ex2, L_next (by rw [hset]; exact h1) ?_, hk2⟩
    rw [h2, List.append_assoc]; rfl
theorem N_for {β : Type} {x : Str} {it : Expr} {body : List Stmt} {r : Pos} {l : List β} (g : β → D) (stt : List β → D → PEnv → PEnv) (K K' : PEnv → Prop) (ex0 : PEnv)
    (hx : own sc x = true) (hi : pit sc ev it ρ = some (l.map g)) (hset : ∀ p e ex d, (stt p e ex).set x (false, d) = stt p d ex) (hset0 : ∀ d, ρ.set x (false, d) = stt [] d ex0) (hk : K ex0) (hl : l ≠ [])
    (hkk : ∀ ex, K' ex → K ex)
    (hbody : ∀ pre y post ex, l = pre ++ y :: post → K ex → Ends (run body (stt pre (g y) ex)) fun ρ' fl => fl = .next ∧ ∃ ex', ρ' = stt (pre ++ [y]) (g y) ex' ∧ K' ex')
    (hr : ∀ e ex, K' ex → Ends (pseq (pxStep sc ev n mu run) rest (stt l e ex)) P) : Ends (pseq (pxStep sc ev n mu run) (.For (.Name x p) it body [] r :: rest) ρ) P := by
  cases l with
  | nil => exact absurd rfl hl
  | cons y l =>
    obtain ⟨ρ', fl, h1, rfl, ex', rfl, hk'⟩ := hbody [] y l ex0 rfl hk
    obtain ⟨e2, ex2, h2, hk2⟩ := loop_run g stt K' hset l [y] (g y) ex' hk' (fun a b c d e h => hbody a b c d e (hkk _ h))
    exact N_to _ (S_for hx hi (L_next (by rw [hset0]; exact h1) h2)) rfl (hr _ _ hk2)
theorem N_for0 {β : Type} {x : Str} {it : Expr} {body : List Stmt} {r : Pos} {l : List β} (g : β → D) (stt : List β → D → PEnv → PEnv) (K : PEnv → Prop) (ex0 : PEnv)
    (hx : own sc x = true) (hi : pit sc ev it ρ = some (l.map g)) (hset : ∀ p e ex d, (stt p e ex).set x (false, d) = stt p d ex) (hset0 : ∀ d, ρ.set x (false, d) = stt [] d ex0) (hk : K ex0)
    (hbody : ∀ pre y post ex, l = pre ++ y :: post → K ex → Ends (run body (stt pre (g y) ex)) fun ρ' fl => fl = .next ∧ ∃ ex', ρ' = stt (pre ++ [y]) (g y) ex' ∧ K ex')
    (h0 : l = [] → Ends (pseq (pxStep sc ev n mu run) rest ρ) P)
    (hr : ∀ e ex, K ex → Ends (pseq (pxStep sc ev n mu run) rest (stt l e ex)) P) : Ends (pseq (pxStep sc ev n mu run) (.For (.Name x p) it body [] r :: rest) ρ) P := by
  by_cases hl : l = []
  · refine N_to ρ (S_for hx hi ?_) rfl (h0 hl)
    rw [hl]; rfl
  · exact N_for g stt K K ex0 hx hi hset hset0 hk hl (fun _ h => h) hbody hr
end
end Mine
end
section
open PySem PySem.W PyProof.Rows
set_option Elab.async false
set_option maxRecDepth 10000
namespace Mine
noncomputable def rdO (t : List (Int × Str)) (c : Nat) : Option (List Nat) := if c4 c = true then some [63] else if b1Nums.contains c = true then some [] else b3Look t c
noncomputable def rd (t : List (Int × Str)) (c : Nat) : List Nat := (rdO t c).getD []
structure Readers (G : Tb) (t : List (Int × Str)) : Prop where
  c4 : ∃ F, G.lookup (Str.ofString "in_table_c4") = some F ∧ ∀ c, F [.str [c]] = some (.bool (c4 c))
  b1 : ∃ F, G.lookup (Str.ofString "in_table_b1") = some F ∧ ∀ c, F [.str [c]] = some (.bool (b1Nums.contains c))
  b3 : ∃ F, G.lookup (Str.ofString "map_table_b3") = some F ∧ ∀ c, F [.str [c]] = (b3Look t c).map .str
end Mine
end
section
open PySem PySem.W PyProof.Rows
set_option Elab.async false
set_option maxRecDepth 10000
namespace Mine
section
variable {G : Tb} {n m : Fu} {sc : List (Str × NameKind)} {ρ ρ' : PEnv} {o o1 o2 : Bool} {a b d : D} {p q : Pos} {k : Nat} {ev : Ev}
theorem T_and2 {x y : Expr} {c c' : Bool} (h : pt ev m x ρ = some c) (h' : pt ev m y ρ = some c') : pt ev (.s m) (.BoolOp .And [x, y] p) ρ = some (c && c') := by
  have := T_and (p := p) (And_cons h fun _ => And_cons h' fun _ => And_nil)
  rw [this]
  cases c <;> cases c' <;> rfl
end
theorem F_filter {α : Type} {f : D → Option (List D)} {g h : α → D} {c : α → Bool} {l : List α} (H : ∀ x ∈ l, f (g x) = some (if c x = true then [h x] else [])) : pforeach f (l.map g) = some ((l.filter c).map h) := by
  rw [F_map H]
  congr 1
  clear H
  induction l with
  | nil => rfl
  | cons x r ih =>
    rw [List.flatMap_cons, ih, List.filter_cons]
    cases c x <;> rfl
theorem sum_cast : ∀ l : List Nat, ((l.map fun k : Nat => (k : Int)).sum) = ((l.sum : Nat) : Int)
  | [] => rfl
  | k :: l => by
    rw [List.map_cons, List.sum_cons, sum_cast l, List.sum_cons]
    rfl
theorem bi_sumN (l : List Nat) (h : l.length ≤ 1000000) : pbuiltin (Str.ofString "sum") [.list (l.map fun k : Nat => D.int (k : Int))] = some (.int ((l.sum : Nat) : Int)) := by
  have := bi_sum (l.map fun k : Nat => (k : Int)) (by simpa using h)
  rw [List.map_map, sum_cast] at this
  exact this
end Mine
end
section
open PySem PySem.W PyProof.Rows
set_option Elab.async false
set_option maxRecDepth 10000
namespace Mine
theorem fil_index : pmeth (Str.ofString "index") (.str [102, 105, 108]) [.str [102]] = some (.int (0 : Nat)) ∧ pmeth (Str.ofString "index") (.str [102, 105, 108]) [.str [105]] = some (.int (1 : Nat)) ∧ pmeth (Str.ofString "index") (.str [102, 105, 108]) [.str [108]] = some (.int (2 : Nat)) := by
  refine ⟨?_, ?_, ?_⟩ <;> kernel_rfl
end Mine
end
section
open PySem PySem.W PyProof.Rows
set_option Elab.async false
set_option maxRecDepth 10000
namespace Mine
theorem pseq_one {f : Stmt → PEnv → Option (PEnv × PFlow)} {st : Stmt} {ρ : PEnv} : pseq f [st] ρ = f st ρ := by
  show (match f st ρ with | some (ρ', PFlow.next) => pseq f [] ρ' | o => o) = _
  split
  · rename_i h; rw [h]; rfl
  · rfl
theorem N_last {f : Stmt → PEnv → Option (PEnv × PFlow)} {st : Stmt} {ρ : PEnv} {P : PEnv → PFlow → Prop} (h : Ends (f st ρ) P) : Ends (pseq f [st] ρ) P := by
  rw [pseq_one]; exact h
theorem pi_mapL {α : Type} (f : α → D) (l : List α) (i : Nat) (d : α) (h : i < l.length) (hl : l.length ≤ 1000000) : pidx (.list (l.map f)) (.int (i : Int)) = some (f (l.getD i d)) := by
  rw [pi_list _ _ (by simpa using h) (by simpa using hl), List.getD_eq_getElem?_getD, List.getElem?_map, List.getElem?_eq_getElem h, List.getD_eq_getElem?_getD, List.getElem?_eq_getElem h]; rfl
theorem ne_same {d : D} (h : Deep (.s (.s (.s (.s .z)))) d) : pcmp .NotEq d d = some false := by
  show (deqN (.s (.s (.s (.s .z)))) d d).map not = _
  rw [deq_refl h]; rfl
theorem eq_same {d : D} (h : Deep (.s (.s (.s (.s .z)))) d) : pcmp .Eq d d = some true := deq_refl h
end Mine
end
section
open PySem PySem.W PyProof.Rows
set_option Elab.async false
set_option maxRecDepth 10000
namespace Mine
theorem inter_cons {y p : List Nat} {A : List (List Nat)} (h : A ≠ []) : inter y (p :: A) = p ++ (y ++ inter y A) := by
  cases A with
  | nil => exact absurd rfl h
  | cons q r => rfl
noncomputable abbrev Plain (L : List Nat) : Prop := ∀ c ∈ L, c ≠ 10 ∧ c ≠ 13
inductive RowEnd : List Nat → List (List Nat) → Prop
  | both : RowEnd [13, 10] []
  | feed : RowEnd [10] []
  | ret : RowEnd [13] []
  | three {z : Nat} : z ≠ 10 → z ≠ 13 → RowEnd [13, z, 10] [[z]]
  | four {z : Nat} : z ≠ 10 → z ≠ 13 → RowEnd [13, z, 10, 13] [[z], []]
theorem eols_row {L E R : List Nat} {X A : List (List Nat)} (hL : Plain L) (hE : RowEnd E X) (hR : ∀ r, R ≠ 10 :: r) (hA : A ≠ []) (h : eols R = inter [13, 10] A) : eols (L ++ E ++ R) = inter [13, 10] (L :: X ++ A) := by
  rw [List.append_assoc, eols_plain L hL]
  show _ = inter [13, 10] (L :: (X ++ A))
  rw [inter_cons (by simp [hA])]
  congr 1
  cases hE with
  | both =>
    show eols (13 :: 10 :: R) = _
    rw [eols_1310, h]; rfl
  | feed =>
    show eols (10 :: R) = _
    rw [eols_10, h]; rfl
  | ret =>
    show eols (13 :: R) = _
    rw [eols_13 hR, h]; rfl
  | three h1 h2 =>
    rename_i z
    show eols (13 :: z :: 10 :: R) = _
    rw [eols_13 (by intro r' e; cases e; exact h1 rfl)]
    show 13 :: 10 :: eols ([z] ++ 10 :: R) = _
    rw [eols_plain [z] (by intro c hc; rw [List.mem_singleton.mp hc]; exact ⟨h1, h2⟩), eols_10, h]
    show _ = [13, 10] ++ inter [13, 10] ([z] :: A)
    rw [inter_cons hA]; rfl
  | four h1 h2 =>
    rename_i z
    show eols (13 :: z :: 10 :: 13 :: R) = _
    rw [eols_13 (by intro r' e; cases e; exact h1 rfl)]
    show 13 :: 10 :: eols ([z] ++ 10 :: 13 :: R) = _
    rw [eols_plain [z] (by intro c hc; rw [List.mem_singleton.mp hc]; exact ⟨h1, h2⟩), eols_10, eols_13 hR, h]
    show _ = [13, 10] ++ inter [13, 10] ([z] :: [] :: A)
    rw [inter_cons (by simp), inter_cons hA]; rfl
theorem eols_nil : eols [] = inter [13, 10] [[]] := rfl
theorem rdO_lo {t : List (Int × Str)} {c : Nat} (h4 : c4 c = false) (h1 : b1Nums.contains c = false) : rdO t c = b3Look t c := by
  unfold rdO
  rw [if_neg (by rw [h4]; decide), if_neg (by rw [h1]; decide)]
theorem rdO_nothing (t : List (Int × Str)) (k : Nat) : rdO t (nothing k) = some [] := by
  have h : ∀ c ∈ nothTab, c4 c = false ∧ b1Nums.contains c = true := by decide
  obtain ⟨h4, h1⟩ := h _ (nothing_mem k)
  unfold rdO
  rw [if_neg (by rw [h4]; decide), if_pos h1]
theorem nothing_plain (k : Nat) : nothing k ≠ 10 ∧ nothing k ≠ 13 := by
  have h : ∀ c ∈ nothTab, c ≠ 10 ∧ c ≠ 13 := by decide
  exact h _ (nothing_mem k)
theorem c4_nobody (k : Nat) : c4 (nobody k) = true := by
  have h : ∀ r, r < 66 → c4 (nobody r) = true := by decide
  have e : nobody k = nobody (k % 66) := by
    unfold nobody
    rw [Nat.mod_mod, Nat.mod_mod_of_dvd _ (by decide)]
  rw [e]
  exact h _ (Nat.mod_lt _ (by decide))
theorem nobody_plain (k : Nat) : nobody k ≠ 10 ∧ nobody k ≠ 13 := by
  constructor <;> (unfold nobody; split <;> omega)
end Mine
end
section
open PySem PySem.W PyProof.Rows PySem.Challenge
set_option Elab.async false
set_option maxRecDepth 100000
namespace Mine
theorem Tu_if {sc : List (Str × NameKind)} {n : Fu} {ρ : PEnv} {d a : D} {c : Bool} {ev : Ev} {elt : Expr} {x : Str} {it : Expr} {ifs : List Expr} {pos : Pos} (hx : ((ρ.lookup x).isNone && own sc x) = true) (hf : pfilter (pt ev n) ifs (ρ.set x (false, d)) = some c) (h : ev elt (ρ.set x (false, d)) = some (true, a)) :
    pturn sc ev n elt [⟨.Name x pos, it, ifs, 0⟩] ρ d = some (if c = true then [a] else []) := by
  cases c with
  | true => exact Tu_elt hx hf h
  | false => exact Tu_skip hx hf
namespace Row3
noncomputable abbrev nm (s : String) (d : D) : Str × Bool × D := (Str.ofString s, false, d)
noncomputable abbrev T : List (Int × Str) := theTable pw_wn0090_03
noncomputable def L (x : Nat) : Nat := [102, 105, 108].getD x 0
noncomputable def ps (k : Nat) : List Nat := [L (k / 3), L (k % 3)]
noncomputable def pr (n : Nat) : Nat := 3 * (n % 3) + n / 3 % 3
theorem pr_lt (n : Nat) : pr n < 9 := by
  have h1 := Nat.mod_lt n (show 0 < 3 by decide)
  have h2 := Nat.mod_lt (n / 3) (show 0 < 3 by decide)
  unfold pr
  omega
theorem ps_pr (n : Nat) : ps (pr n) = [L (n % 3), L (n / 3 % 3)] := by
  have h2 := Nat.mod_lt (n / 3) (show 0 < 3 by decide)
  unfold ps pr
  rw [Nat.mul_add_div (by decide), Nat.div_eq_of_lt h2, Nat.add_zero, Nat.mul_add_mod, Nat.mod_eq_of_lt h2]
theorem pair_ok {G : Tab} (n : Nat) : fn G 7 [.int (n : Int)] = some (.str [L (n % 3), L (n / 3 % 3)]) := by
  refine' N_def [nm "n" (.int (n : Int))] rfl rfl (N_seq (N_ret (S_ret rfl (E_bin (E_sub rfl (E_constS kk_fil) (E_bin (E_name rfl) (E_const rfl) (lf_mod rfl (lit 3) (by decide))) (lf_str rfl ?a ?b)) (E_sub rfl (E_constS kk_fil) (E_bin (E_bin (E_name rfl) (E_const rfl) (lf_div rfl (lit 3) (by decide) (by decide))) (E_const rfl) (lf_mod rfl (lit 3) (by decide))) (lf_str rfl ?c ?d)) (pb_addS _ _ ?e))) rfl))
  case a => exact Nat.mod_lt _ (by decide)
  case b => decide
  case c => exact Nat.mod_lt _ (by decide)
  case d => decide
  case e => exact show 2 ≤ 1000000 by decide
noncomputable def Rd (c : Nat) (u : List Nat) : Prop := c4 c = false ∧ rdO T c = some u
noncomputable def Reads (E u : List Nat) : Prop := (∀ c ∈ E, c4 c = false ∧ (rdO T c).isSome = true) ∧ E.flatMap (rd T) = u
theorem Reads.nil : Reads [] [] := ⟨by simp, rfl⟩
theorem Reads.append {L M B C : List Nat} (x : Reads L B) (y : Reads M C) : Reads (L ++ M) (B ++ C) :=
  ⟨fun c h => (List.mem_append.mp h).elim (x.1 c) (y.1 c), by rw [List.flatMap_append, x.2, y.2]⟩
theorem Reads.one {c : Nat} {u : List Nat} (h : Rd c u) : Reads [c] u :=
  ⟨fun d hd => by rw [List.mem_singleton.mp hd]; exact ⟨h.1, by rw [h.2]; rfl⟩, by unfold rd; rw [List.flatMap_cons, List.flatMap_nil, List.append_nil, h.2]; rfl⟩
theorem rd_of {c : Nat} {y : List Nat} (h : b3Look T c = some y) (h' : (c4 c || b1Nums.contains c) = false) : Rd c y := by
  rw [Bool.or_eq_false_iff] at h'
  exact ⟨h'.1, by rw [rdO_lo h'.1 h'.2, h]⟩
theorem rdnothing (k : Nat) : Rd (nothing k) [] := by
  have h : ∀ c ∈ nothTab, c4 c = false := by decide
  exact ⟨h _ (nothing_mem k), rdO_nothing T k⟩
structure Forms (x : Nat) : Prop where
  small : Rd x [x]
  great : Rd (x - 32) [x]
  math : Rd (119711 + x) [x]
  lig : ∃ i : Nat, i < 3 ∧ pmeth (Str.ofString "index") (.str [102, 105, 108]) [.str [x]] = some (.int (i : Int)) ∧ Rd (64256 + i) [102, x]
  lo : 102 ≤ x
  hi : x ≤ 108
theorem forms {a : Nat} (h : a < 3) : Forms (L a) := by
  rcases lt3 h with rfl | rfl | rfl
  · exact ⟨rd_of (by kernel_rfl) (by decide), rd_of (by kernel_rfl) (by decide), rd_of (by kernel_rfl) (by decide), ⟨0, by decide, fil_index.1, rd_of (by kernel_rfl) (by decide)⟩, by decide, by decide⟩
  · exact ⟨rd_of (by kernel_rfl) (by decide), rd_of (by kernel_rfl) (by decide), rd_of (by kernel_rfl) (by decide), ⟨1, by decide, fil_index.2.1, rd_of (by kernel_rfl) (by decide)⟩, by decide, by decide⟩
  · exact ⟨rd_of (by kernel_rfl) (by decide), rd_of (by kernel_rfl) (by decide), rd_of (by kernel_rfl) (by decide), ⟨2, by decide, fil_index.2.2, rd_of (by kernel_rfl) (by decide)⟩, by decide, by decide⟩
structure Body (n : Nat) (B : List Nat) : Prop where
  plain : Plain B
  ne : B ≠ []
  len : B.length ≤ 5
  bar : n / 36 % 6 = 0 → B.any c4 = true
  reads : n / 36 % 6 ≠ 0 → Reads B [L (n % 3), L (n / 3 % 3)]
noncomputable def ends (n : Nat) : List (List Nat) := [[13, 10], [10], [13], [13, nothing (n / 216), 10, 13]]
noncomputable def endX (n : Nat) : List (List Nat) := if (n / 9 % 4 == 3) = true then [[nothing (n / 216)], []] else []
theorem end_row (n : Nat) : RowEnd ((ends n).getD (n / 9 % 4) []) (endX n) ∧ ((ends n).getD (n / 9 % 4) []).length ≤ 4 := by
  unfold ends endX
  rcases mod4 (n / 9) with h | h | h | h <;> rw [h]
  · exact ⟨.both, show 2 ≤ 4 by decide⟩
  · exact ⟨.feed, show 1 ≤ 4 by decide⟩
  · exact ⟨.ret, show 1 ≤ 4 by decide⟩
  · exact ⟨.four (nothing_plain _).1 (nothing_plain _).2, show 4 ≤ 4 by decide⟩
noncomputable def rE (n : Nat) (x y : Nat) (e : PEnv) : PEnv := [nm "n" (.int (n : Int)), nm "pair" (.str [x, y]), nm "blank" (.str [nothing (n / 216)]), nm "kind" (.int ((n / 36 % 6 : Nat) : Int))] ++ e
noncomputable def rF (n : Nat) (x y : Nat) : PEnv := rE n x y [nm "end" (.str ((ends n).getD (n / 9 % 4) []))]
theorem plain_one {c : Nat} (h : c ≠ 10 ∧ c ≠ 13) : Plain [c] := fun d hd => by rw [List.mem_singleton.mp hd]; exact h
theorem plain_app {u v : List Nat} (h : Plain u) (h' : Plain v) : Plain (u ++ v) := fun d hd => (List.mem_append.mp hd).elim (h d) (h' d)
theorem big_plain {c : Nat} (h : 14 ≤ c) : c ≠ 10 ∧ c ≠ 13 := by omega
end Row3
end Mine
end
section
open PySem PySem.W PyProof.Rows PySem.Challenge
set_option Elab.async false
set_option maxRecDepth 100000
namespace Mine
namespace Row3
theorem app_M {t x : List Nat} (h : t.length ≤ 20) (h' : x.length ≤ 20) : (t ++ x).length ≤ 1000000 := by
  rw [List.length_append]; exact Nat.le_trans (Nat.add_le_add h h') (by decide)
theorem bar_len (x y m q : Nat) (hq : q ≤ 2) : ([x, y].take q ++ [m] ++ [x, y].drop q).length = 3 ∧ ([x, y].take q ++ [m]).length ≤ 3 ∧ ([x, y].drop q).length ≤ 2 := by
  rcases lt3 (Nat.lt_succ_of_le hq) with rfl | rfl | rfl
  · exact ⟨rfl, show 1 ≤ 3 by decide, show 2 ≤ 2 by decide⟩
  · exact ⟨rfl, show 2 ≤ 3 by decide, show 1 ≤ 2 by decide⟩
  · exact ⟨rfl, show 3 ≤ 3 by decide, show 0 ≤ 2 by decide⟩
theorem row_ok {G : Tab} {P N B : List D → Option D} (hP : G.lookup (Str.ofString "_law_pair") = some P) (hP' : ∀ n : Nat, P [.int (n : Int)] = some (.str [L (n % 3), L (n / 3 % 3)]))
    (hN : G.lookup (Str.ofString "_law_nothing") = some N) (hN' : ∀ k : Nat, N [.int (k : Int)] = some (.str [nothing k])) (hB : G.lookup (Str.ofString "_law_nobody") = some B) (hB' : ∀ k : Nat, B [.int (k : Int)] = some (.str [nobody k]))
    (hC : G.lookup (Str.ofString "chr") = none) (hO : G.lookup (Str.ofString "ord") = none) (n : Nat) : ∃ U, Body n U ∧ fn G 8 [.int (n : Int)] = some (.str (U ++ (ends n).getD (n / 9 % 4) [])) := by
  obtain ⟨_, hel⟩ := end_row n
  have hel : ((ends n).getD (n / 9 % 4) []).length ≤ 20 := Nat.le_trans hel (by decide)
  have fx := forms (Nat.mod_lt n (show 0 < 3 by decide))
  have fy := forms (Nat.mod_lt (n / 3) (show 0 < 3 by decide))
  have hq : n / 216 % 3 ≤ 2 := Nat.le_of_lt_succ (Nat.mod_lt _ (by decide))
  have mk : ∀ {U : List Nat}, Plain U → U ≠ [] → U.length ≤ 5 → (n / 36 % 6 ≠ 0 → Reads U [L (n % 3), L (n / 3 % 3)]) → n / 36 % 6 ≠ 0 → Body n U := fun h1 h2 h3 h4 h5 => ⟨h1, h2, h3, fun h => absurd h h5, h4⟩
  generalize hx : L (n % 3) = x at fx mk
  generalize hy : L (n / 3 % 3) = y at fy mk
  have plx := plain_one (big_plain (Nat.le_trans (show 14 ≤ 102 by decide) fx.lo))
  have ply := plain_one (big_plain (Nat.le_trans (show 14 ≤ 102 by decide) fy.lo))
  have plX := plain_one (big_plain (Nat.le_trans (show 14 ≤ 102 - 32 by decide) (Nat.sub_le_sub_right fx.lo 32)))
  have plY := plain_one (big_plain (Nat.le_trans (show 14 ≤ 102 - 32 by decide) (Nat.sub_le_sub_right fy.lo 32)))
  have plz := plain_one (nothing_plain (n / 216))
  have plm := plain_one (big_plain (Nat.le_trans (show 14 ≤ 119711 by decide) (Nat.le_add_right 119711 x)))
  have rz := Reads.one (rdnothing (n / 216))
  have body : ∀ {U : List Nat}, Body n U → Ends (px (dd 8).scope.names (pe G fuL (dd 8).scope.names) fuL (muts 8 (dd 8).body) fuL (dd 8).body [nm "n" (.int (n : Int))]) (fun _ fl => fl = .ret (.str (U ++ (ends n).getD (n / 9 % 4) []))) → ∃ U, Body n U ∧ fn G 8 [.int (n : Int)] = some (.str (U ++ (ends n).getD (n / 9 % 4) [])) :=
    fun hb h => ⟨_, hb, N_def _ rfl rfl h⟩
  have open4 : ∀ {Q : PEnv → PFlow → Prop}, Ends (pseq (pxStep (dd 8).scope.names (pe G fuL (dd 8).scope.names) fuL (muts 8 (dd 8).body) (px (dd 8).scope.names (pe G fuL (dd 8).scope.names) fuL (muts 8 (dd 8).body) (.s (.s (.s (.s (.s (.s (.s (.s (.s (.s (.s (.s (.s (.s (.s .z))))))))))))))))) ((dd 8).body.drop 4) (rF n x y)) Q → Ends (px (dd 8).scope.names (pe G fuL (dd 8).scope.names) fuL (muts 8 (dd 8).body) fuL (dd 8).body [nm "n" (.int (n : Int))]) Q := by
    intro Q h
    refine' N_seq (N_to [nm "n" (.int (n : Int)), nm "pair" (.str [x, y])] (S_assign rfl rfl (E_callG rfl hP (C_cons rfl (E_nameC rfl) C_nil) (hP' n))) ?q1 (N_to [nm "n" (.int (n : Int)), nm "pair" (.str [x, y]), nm "blank" (.str [nothing (n / 216)])] (S_assign rfl rfl (E_callG rfl hN (C_cons rfl (E_bin (E_name rfl) (E_const rfl) (lf_div rfl (lit 216) (by decide) (by decide))) C_nil) (hN' _))) rfl (N_to (rE n x y []) (S_assign rfl rfl (E_bin (E_bin (E_name rfl) (E_const rfl) (lf_div rfl (lit 36) (by decide) (by decide))) (E_const rfl) (lf_mod rfl (lit 6) (by decide)))) rfl (N_to (rF n x y) (S_assign rfl rfl (E_sub rfl (E_list (ds := (ends n).map D.str) (C_cons rfl (E_constS kk_rn) (C_cons rfl (E_constS kk_n) (C_cons rfl (E_constS kk_r) (C_cons rfl (E_bin (E_bin (E_constS kk_r) (E_name rfl) (pb_addS [13] [nothing (n / 216)] (show 2 ≤ 1000000 by decide))) (E_constS kk_nr) (pb_addS [13, nothing (n / 216)] [10, 13] (show 4 ≤ 1000000 by decide))) C_nil)))) (show 4 ≤ 1000000 by decide)) (E_bin (E_bin (E_name rfl) (E_const rfl) (lf_div rfl (lit 9) (by decide) (by decide))) (E_const rfl) (lf_mod rfl (lit 4) (by decide))) (pi_mapL D.str (ends n) (n / 9 % 4) [] (Nat.mod_lt _ (by decide)) (show 4 ≤ 1000000 by decide)))) rfl h))))
    case q1 => rw [hx, hy]; rfl
  by_cases k0 : n / 36 % 6 = 0
  · obtain ⟨b1, b2, b3⟩ := bar_len x y (nobody (n / 216)) (n / 216 % 3) hq
    refine' body (U := ([x, y].take (n / 216 % 3) ++ [nobody (n / 216)]) ++ [x, y].drop (n / 216 % 3)) ⟨?b4, ?b5, Nat.le_trans (Nat.le_of_eq b1) (by decide), ?b6, fun h => absurd k0 h⟩ (open4 (N_ret (S_ift (T_cmp (E_name rfl) (E_const rfl) rfl rfl (lf_eq rfl (lit 0))) (beq_iff_eq.mpr k0) (X_seq (Q_ret (S_ret rfl (E_bin (E_bin (E_bin (E_slice (E_name (d := .str [x, y]) rfl) Bd_none (Bd_some (E_bin (E_bin (E_name rfl) (E_const rfl) (lf_div rfl (lit 216) (by decide) (by decide))) (E_const rfl) (lf_mod rfl (lit 3) (by decide)))) (sS_lo rfl (Nat.le_trans hq (by decide)) (show 2 ≤ 1000000 by decide))) (E_callG rfl hB (C_cons rfl (E_bin (E_name rfl) (E_const rfl) (lf_div rfl (lit 216) (by decide) (by decide))) C_nil) (hB' _)) (pb_addS _ _ ?l1)) (E_slice (E_name (d := .str [x, y]) rfl) (Bd_some (E_bin (E_bin (E_name rfl) (E_const rfl) (lf_div rfl (lit 216) (by decide) (by decide))) (E_const rfl) (lf_mod rfl (lit 3) (by decide)))) Bd_none (sS_hi rfl (Nat.le_trans hq (by decide)) (show 2 ≤ 1000000 by decide))) (pb_addS _ _ ?l2)) (E_name (d := .str ((ends n).getD (n / 9 % 4) [])) rfl) (pb_addS _ _ ?l3)))))) rfl))
    case l1 => exact Nat.le_trans b2 (by decide)
    case l2 => exact Nat.le_trans (Nat.le_of_eq b1) (by decide)
    case l3 => exact app_M (Nat.le_trans (Nat.le_of_eq b1) (by decide)) hel
    case b4 =>
      have hxy : Plain [x, y] := plain_app plx ply
      exact plain_app (plain_app (fun c hc => hxy c (List.mem_of_mem_take hc)) (plain_one (nobody_plain _))) (fun c hc => hxy c (List.mem_of_mem_drop hc))
    case b5 => intro h; rw [h] at b1; cases b1
    case b6 =>
      intro _
      rw [List.any_append, List.any_append]
      show (_ || (c4 (nobody (n / 216)) || false) || _) = true
      rw [c4_nobody, Bool.true_or, Bool.or_true, Bool.true_or]
  · have n0 : (n / 36 % 6 == 0) = false := by rw [beq_eq_false_iff_ne]; exact k0
    have go1 : ∀ {Q : PEnv → PFlow → Prop}, Ends (pseq (pxStep (dd 8).scope.names (pe G fuL (dd 8).scope.names) fuL (muts 8 (dd 8).body) (px (dd 8).scope.names (pe G fuL (dd 8).scope.names) fuL (muts 8 (dd 8).body) (.s (.s (.s (.s (.s (.s (.s (.s (.s (.s (.s (.s (.s (.s (.s .z))))))))))))))))) ((dd 8).body.drop 5) (rF n x y)) Q → Ends (px (dd 8).scope.names (pe G fuL (dd 8).scope.names) fuL (muts 8 (dd 8).body) fuL (dd 8).body [nm "n" (.int (n : Int))]) Q :=
      fun h => open4 (N_to _ (S_iff (T_cmp (E_name rfl) (E_const rfl) rfl rfl (lf_eq rfl (lit 0))) n0 (X_seq Q_nil)) rfl h)
    cases k1 : (n / 36 % 6 == 1 && [x] == [102]) with
    | true =>
      obtain ⟨i, hi, xi, ri⟩ := fy.lig
      have ex : x = 102 := (List.cons.inj (eq_of_beq (Bool.and_eq_true_iff.mp k1).2)).1
      refine' body (U := [64256 + i]) (mk (plain_one (big_plain (Nat.le_trans (show 14 ≤ 64256 by decide) (Nat.le_add_right _ _)))) (by simp) (show 1 ≤ 5 by decide) (fun _ => by rw [ex]; exact .one ri) k0) (go1 (N_ret (S_ift (T_and2 (T_cmp (E_name rfl) (E_const rfl) rfl rfl (lf_eq rfl (lit 1))) (T_cmp (E_sub rfl (E_name (d := .str [x, y]) rfl) (E_const rfl) (pi_str [x, y] 0 (show 0 < 2 by decide) (show 2 ≤ 1000000 by decide))) (E_constS kk_f) rfl rfl (pcs_eq _ _))) k1 (X_seq (Q_ret (S_ret rfl (E_bin (E_callB rfl hC (V_cons rfl (E_bin (E_const rfl) (E_meth1 rfl (E_constS kk_fil) (V_cons rfl (E_sub rfl (E_name (d := .str [x, y]) rfl) (E_const rfl) (pi_str [x, y] 1 (show 1 < 2 by decide) (show 2 ≤ 1000000 by decide))) V_nil) xi) (lf_add (lit 64256) rfl)) V_nil) (lf_chr rfl (show 64256 + i ≤ 1114111 from Nat.le_trans (Nat.add_le_add_left (Nat.le_of_lt hi) _) (by decide)))) (E_name (d := .str ((ends n).getD (n / 9 % 4) [])) rfl) (pb_addS _ _ (app_M (show 1 ≤ 20 by decide) hel))))))) rfl))
    | false =>
      have go2 : ∀ {Q : PEnv → PFlow → Prop}, Ends (pseq (pxStep (dd 8).scope.names (pe G fuL (dd 8).scope.names) fuL (muts 8 (dd 8).body) (px (dd 8).scope.names (pe G fuL (dd 8).scope.names) fuL (muts 8 (dd 8).body) (.s (.s (.s (.s (.s (.s (.s (.s (.s (.s (.s (.s (.s (.s (.s .z))))))))))))))))) ((dd 8).body.drop 6) (rF n x y)) Q → Ends (px (dd 8).scope.names (pe G fuL (dd 8).scope.names) fuL (muts 8 (dd 8).body) fuL (dd 8).body [nm "n" (.int (n : Int))]) Q :=
        fun h => go1 (N_to _ (S_iff (T_and2 (T_cmp (E_name rfl) (E_const rfl) rfl rfl (lf_eq rfl (lit 1))) (T_cmp (E_sub rfl (E_name (d := .str [x, y]) rfl) (E_const rfl) (pi_str [x, y] 0 (show 0 < 2 by decide) (show 2 ≤ 1000000 by decide))) (E_constS kk_f) rfl rfl (pcs_eq _ _))) k1 (X_seq Q_nil)) rfl h)
      cases k2 : (n / 36 % 6 == 2) with
      | true =>
        refine' body (U := [x - 32] ++ [y]) (mk (plain_app plX ply) (by simp) (show 2 ≤ 5 by decide) (fun _ => (Reads.one fx.great).append (.one fy.small)) k0) (go2 (N_ret (S_ift (T_cmp (E_name rfl) (E_const rfl) rfl rfl (lf_eq rfl (lit 2))) k2 (X_seq (Q_ret (S_ret rfl (E_bin (E_bin (E_callB rfl hC (V_cons rfl (E_bin (E_callB rfl hO (V_cons rfl (E_sub rfl (E_name (d := .str [x, y]) rfl) (E_const rfl) (pi_str [x, y] 0 (show 0 < 2 by decide) (show 2 ≤ 1000000 by decide))) V_nil) (bi_ord _)) (E_const rfl) (lf_sub rfl (lit 32) (Nat.le_trans (by decide) fx.lo))) V_nil) (lf_chr rfl (Nat.le_trans (Nat.sub_le _ _) (Nat.le_trans fx.hi (by decide))))) (E_sub rfl (E_name (d := .str [x, y]) rfl) (E_const rfl) (pi_str [x, y] 1 (show 1 < 2 by decide) (show 2 ≤ 1000000 by decide))) (pb_addS _ _ (show 2 ≤ 1000000 by decide))) (E_name (d := .str ((ends n).getD (n / 9 % 4) [])) rfl) (pb_addS _ _ (app_M (show 2 ≤ 20 by decide) hel))))))) rfl))
      | false =>
        cases k3 : (n / 36 % 6 == 3) with
        | true =>
          refine' body (U := [119711 + x] ++ [y - 32]) (mk (plain_app plm plY) (by simp) (show 2 ≤ 5 by decide) (fun _ => (Reads.one fx.math).append (.one fy.great)) k0) (go2 (N_to _ (S_iff (T_cmp (E_name rfl) (E_const rfl) rfl rfl (lf_eq rfl (lit 2))) k2 (X_seq Q_nil)) rfl (N_ret (S_ift (T_cmp (E_name rfl) (E_const rfl) rfl rfl (lf_eq rfl (lit 3))) k3 (X_seq (Q_ret (S_ret rfl (E_bin (E_bin (E_callB rfl hC (V_cons rfl (E_bin (E_const rfl) (E_callB rfl hO (V_cons rfl (E_sub rfl (E_name (d := .str [x, y]) rfl) (E_const rfl) (pi_str [x, y] 0 (show 0 < 2 by decide) (show 2 ≤ 1000000 by decide))) V_nil) (bi_ord _)) (lf_add (lit 119711) rfl)) V_nil) (lf_chr rfl (show 119711 + x ≤ 1114111 from Nat.le_trans (Nat.add_le_add_left fx.hi _) (by decide)))) (E_callB rfl hC (V_cons rfl (E_bin (E_callB rfl hO (V_cons rfl (E_sub rfl (E_name (d := .str [x, y]) rfl) (E_const rfl) (pi_str [x, y] 1 (show 1 < 2 by decide) (show 2 ≤ 1000000 by decide))) V_nil) (bi_ord _)) (E_const rfl) (lf_sub rfl (lit 32) (Nat.le_trans (by decide) fy.lo))) V_nil) (lf_chr rfl (Nat.le_trans (Nat.sub_le _ _) (Nat.le_trans fy.hi (by decide))))) (pb_addS _ _ (show 2 ≤ 1000000 by decide))) (E_name (d := .str ((ends n).getD (n / 9 % 4) [])) rfl) (pb_addS _ _ (app_M (show 2 ≤ 20 by decide) hel))))))) rfl)))
        | false =>
          cases k4 : (n / 36 % 6 == 4) with
          | true =>
            refine' body (U := [x] ++ [nothing (n / 216)] ++ [y]) (mk (plain_app (plain_app plx plz) ply) (by simp) (show 3 ≤ 5 by decide) (fun _ => ((Reads.one fx.small).append rz).append (.one fy.small)) k0) (go2 (N_to _ (S_iff (T_cmp (E_name rfl) (E_const rfl) rfl rfl (lf_eq rfl (lit 2))) k2 (X_seq Q_nil)) rfl (N_to _ (S_iff (T_cmp (E_name rfl) (E_const rfl) rfl rfl (lf_eq rfl (lit 3))) k3 (X_seq Q_nil)) rfl (N_ret (S_ift (T_cmp (E_name rfl) (E_const rfl) rfl rfl (lf_eq rfl (lit 4))) k4 (X_seq (Q_ret (S_ret rfl (E_bin (E_bin (E_bin (E_sub rfl (E_name (d := .str [x, y]) rfl) (E_const rfl) (pi_str [x, y] 0 (show 0 < 2 by decide) (show 2 ≤ 1000000 by decide))) (E_name (d := .str [nothing (n / 216)]) rfl) (pb_addS _ _ (show 2 ≤ 1000000 by decide))) (E_sub rfl (E_name (d := .str [x, y]) rfl) (E_const rfl) (pi_str [x, y] 1 (show 1 < 2 by decide) (show 2 ≤ 1000000 by decide))) (pb_addS _ _ (show 3 ≤ 1000000 by decide))) (E_name (d := .str ((ends n).getD (n / 9 % 4) [])) rfl) (pb_addS _ _ (app_M (show 3 ≤ 20 by decide) hel))))))) rfl))))
          | false =>
            refine' body (U := [nothing (n / 216)] ++ [x, y] ++ [nothing (n / 216)]) (mk (plain_app (plain_app plz (plain_app plx ply)) plz) (by simp) (show 4 ≤ 5 by decide) (fun _ => (rz.append ((Reads.one fx.small).append (.one fy.small))).append rz) k0) (go2 (N_to _ (S_iff (T_cmp (E_name rfl) (E_const rfl) rfl rfl (lf_eq rfl (lit 2))) k2 (X_seq Q_nil)) rfl (N_to _ (S_iff (T_cmp (E_name rfl) (E_const rfl) rfl rfl (lf_eq rfl (lit 3))) k3 (X_seq Q_nil)) rfl (N_to _ (S_iff (T_cmp (E_name rfl) (E_const rfl) rfl rfl (lf_eq rfl (lit 4))) k4 (X_seq Q_nil)) rfl (N_ret (S_ret rfl (E_bin (E_bin (E_bin (E_name (d := .str [nothing (n / 216)]) rfl) (E_name (d := .str [x, y]) rfl) (pb_addS _ _ (show 3 ≤ 1000000 by decide))) (E_name (d := .str [nothing (n / 216)]) rfl) (pb_addS _ _ (show 4 ≤ 1000000 by decide))) (E_name (d := .str ((ends n).getD (n / 9 % 4) [])) rfl) (pb_addS _ _ (app_M (show 4 ≤ 20 by decide) hel)))) rfl)))))
end Row3
end Mine
end
section
open PySem PySem.W PyProof.Rows PySem.Challenge
set_option Elab.async false
set_option maxRecDepth 100000
namespace Mine
namespace Row3
noncomputable def sh (n : Nat) : List (List Nat) := (if (n / 36 % 6 == 0) = true then [63] else [46, 46]) :: (if (n / 9 % 4 == 3) = true then [[], []] else [])
noncomputable def shape (ns : List Nat) : List (List Nat) := ns.flatMap sh ++ [[]]
noncomputable abbrev intsD (ns : List Nat) : D := .list (ns.map fun n : Nat => D.int (n : Int))
noncomputable def hE (ns : List Nat) (l : List (List Nat)) (e : PEnv) : PEnv := [nm "numbers" (intsD ns), (Str.ofString "shape", true, .list (l.map .str))] ++ e
theorem sh_len (n : Nat) : (sh n).length ≤ 3 := by unfold sh; split <;> split <;> decide
theorem flat_len {α β : Type} {f : α → List β} {k : Nat} (h : ∀ a, (f a).length ≤ k) : ∀ l : List α, (l.flatMap f).length ≤ k * l.length
  | [] => Nat.zero_le _
  | a :: l => by
    rw [List.flatMap_cons, List.length_append, List.length_cons, Nat.mul_succ, Nat.add_comm]
    exact Nat.add_le_add (flat_len h l) (h a)
theorem pre_le {α : Type} {l pre post : List α} {y : α} (e : l = pre ++ y :: post) : pre.length < l.length := by
  rw [e, List.length_append]; exact Nat.lt_add_of_pos_right (Nat.succ_pos _)
theorem shape_ok {G : Tab} (ns : List Nat) (hne : ns ≠ []) (hl : ns.length ≤ 10) : fn G 9 [intsD ns] = some (.list ((shape ns).map .str)) := by
  refine' N_def [nm "numbers" (intsD ns)] rfl rfl (N_seq (N_to (hE ns [] []) (S_list rfl C_nil (by decide)) rfl ?r1))
  case r1 =>
  refine' N_for (fun n : Nat => D.int (n : Int)) (fun pre d ex => hE ns (pre.flatMap sh) (nm "n" d :: ex)) (fun ex => ex = []) (fun ex => ex = []) [] rfl (I_list rfl (E_nameC rfl) (by rw [List.length_map]; exact Nat.le_trans hl (by decide))) (fun _ _ _ _ => rfl) (fun _ => rfl) rfl hne (fun _ h => h) ?b2 ?r2
  case b2 =>
    intro pre n post ex e hex
    subst hex
    have h1 : (pre.flatMap sh).length ≤ 30 := Nat.le_trans (flat_len sh_len pre) (Nat.mul_le_mul_left 3 (Nat.le_trans (Nat.le_of_lt (pre_le e)) hl))
    rw [List.flatMap_append, List.flatMap_cons, List.flatMap_nil, List.append_nil]
    generalize pre.flatMap sh = A at h1
    refine' N_seq (N_to (hE ns (A ++ [if (n / 36 % 6 == 0) = true then [63] else [46, 46]]) [nm "n" (.int (n : Int))]) (S_append rfl rfl rfl (C_cons rfl (E_iteS (T_cmp (E_bin (E_bin (E_name rfl) (E_const rfl) (lf_div rfl (lit 36) (by decide) (by decide))) (E_const rfl) (lf_mod rfl (lit 6) (by decide))) (E_const rfl) rfl rfl (lf_eq rfl (lit 0))) (E_constS kk_q) (E_constS kk_dd)) C_nil) (by rw [List.length_map]; exact Nat.le_trans h1 (by decide))) ?q3 (N_last ?i3))
    case q3 =>
      unfold hE
      rw [List.map_append]
      rfl
    case i3 =>
    unfold sh
    cases hc : (n / 9 % 4 == 3) with
    | true =>
      refine' N_ift (T_cmp (E_bin (E_bin (E_name rfl) (E_const rfl) (lf_div rfl (lit 9) (by decide) (by decide))) (E_const rfl) (lf_mod rfl (lit 4) (by decide))) (E_const rfl) rfl rfl (lf_eq rfl (lit 3))) hc (N_seq (N_to (hE ns (A ++ ((if (n / 36 % 6 == 0) = true then [63] else [46, 46]) :: [[], []])) [nm "n" (.int (n : Int))]) (S_extend (l := (A ++ [if (n / 36 % 6 == 0) = true then [63] else [46, 46]]).map D.str) (ds := [.str [], .str []]) rfl rfl (C_cons rfl (E_list (C_cons rfl (E_constS PySem.W.KWk.none_list) (C_cons rfl (E_constS PySem.W.KWk.none_list) C_nil)) (show 2 ≤ 1000000 by decide)) C_nil) ?l4) ?q4 (N_nil ⟨rfl, [], rfl, rfl⟩)))
      case l4 =>
        rw [List.length_append, List.length_map, List.length_append]
        exact Nat.le_trans (Nat.add_le_add_right (Nat.add_le_add_right h1 1) 2) (by decide)
      case q4 =>
        unfold hE
        rw [List.map_append, List.map_append, List.append_assoc]
        rfl
    | false =>
      exact N_iff (T_cmp (E_bin (E_bin (E_name rfl) (E_const rfl) (lf_div rfl (lit 9) (by decide) (by decide))) (E_const rfl) (lf_mod rfl (lit 4) (by decide))) (E_const rfl) rfl rfl (lf_eq rfl (lit 3))) hc (N_seq (N_nil ⟨rfl, [], rfl, rfl⟩))
  case r2 =>
    intro d ex hex
    subst hex
    have h1 : (ns.flatMap sh).length ≤ 30 := Nat.le_trans (flat_len sh_len ns) (Nat.mul_le_mul_left 3 hl)
    have e : (shape ns).map D.str = (ns.flatMap sh).map D.str ++ [.str []] := by unfold shape; rw [List.map_append]; rfl
    rw [e]
    refine N_ret (S_ret rfl (E_bin (E_name rfl) (E_list (C_cons rfl (E_constS PySem.W.KWk.none_list) C_nil) (show 1 ≤ 1000000 by decide)) (pb_addL _ _ ?_))) rfl
    rw [List.length_append, List.length_map]
    exact Nat.le_trans (Nat.add_le_add_right h1 1) (by decide)
noncomputable def lineV (l : List Nat) : List Nat := if l.any c4 = true then [63] else l.flatMap (rd T)
noncomputable def nE (x : List Nat) (l : List (List Nat)) (e : PEnv) : PEnv := [nm "text" (.str x), (Str.ofString "lines", true, .list (l.map .str))] ++ e
theorem pc_neNil (x : List D) : pcmp .NotEq (.list x) (.list []) = some (!x.isEmpty) := by
  cases x with
  | nil => rfl
  | cons a r => rfl
theorem filter_empty (p : Nat → Bool) (g : Nat → D) : ∀ l : List Nat, (!((l.filter p).map g).isEmpty) = l.any p
  | [] => rfl
  | a :: l => by
    rw [List.filter_cons, List.any_cons]
    cases h : p a with
    | true => rfl
    | false =>
      have := filter_empty p g l
      rw [Bool.false_or, ← this]
      rfl
theorem keep_flat (p : Nat → Bool) (f : Nat → List Nat) : ∀ l : List Nat, (∀ c ∈ l, p c = false → f c = []) → ((l.filter p).map f).flatten = l.flatMap f
  | [], _ => rfl
  | a :: l, h => by
    have ih := keep_flat p f l fun c hc => h c (List.mem_cons_of_mem _ hc)
    rw [List.filter_cons, List.flatMap_cons]
    cases hp : p a with
    | true =>
      rw [if_pos rfl, List.map_cons, List.flatten_cons, ih]
    | false =>
      rw [if_neg (by decide), ih, h a List.mem_cons_self hp]; rfl
structure LineOk (l : List Nat) : Prop where
  free : 13 ∉ l
  len : l.length ≤ 100
  vlen : (l.flatMap (rd T)).length ≤ 1000
  some : l.any c4 = false → ∀ c ∈ l, (rdO T c).isSome = true
theorem fixE_of {x : List Nat} (h : x.length ≤ 10000) : fixE [.str x] = some (.str (eols x)) := by
  unfold fixE
  dsimp only
  rw [if_pos h]
theorem lines_ok {G : Tab} (R : Readers G T) (hX : G.lookup (Str.ofString "_fix_eols") = some fixE) {x : List Nat} {A : List (List Nat)} (hx : x.length ≤ 2000) (hA : A ≠ []) (hAl : A.length ≤ 100) (he : eols x = inter [13, 10] A) (hl : ∀ l ∈ A, LineOk l) :
    fn G 10 [.str x] = some (.list ((A.map lineV).map .str)) := by
  obtain ⟨F4, h4, h4'⟩ := R.c4
  obtain ⟨F1, h1, h1'⟩ := R.b1
  obtain ⟨F3, h3, h3'⟩ := R.b3
  have hel := eols_length x
  refine' N_def [nm "text" (.str x)] rfl rfl (N_seq (N_to (nE x [] []) (S_list rfl C_nil (by decide)) rfl ?r1))
  case r1 =>
  refine' N_for (fun l : List Nat => D.str l) (fun pre d ex => nE x (pre.map lineV) (nm "line" d :: ex)) (fun ex => ex = []) (fun ex => ex = []) [] rfl (I_list (l := A.map D.str) rfl (E_meth1 rfl (E_callG rfl hX (C_cons rfl (E_nameC rfl) C_nil) (fixE_of (Nat.le_trans hx (by decide)))) (V_cons rfl (E_constS kk_rn) V_nil) ?s2) (by rw [List.length_map]; exact Nat.le_trans hAl (by decide))) (fun _ _ _ _ => rfl) (fun _ => rfl) rfl hA (fun _ h => h) ?b2 ?r2
  case s2 =>
    rw [he]
    exact me_split hA (fun l h => (hl l h).free) (by rw [← he]; omega)
  case r2 =>
    intro d ex hex
    exact N_ret (S_retN rfl rfl) rfl
  case b2 =>
    intro pre l post ex e hex
    subst hex
    have ok := hl l (by rw [e]; simp)
    have hp : (pre.map lineV).length ≤ 1000000 := by rw [List.length_map]; exact Nat.le_trans (Nat.le_of_lt (pre_le e)) (Nat.le_trans hAl (by decide))
    have hll : l.length ≤ 1000000 := Nat.le_trans ok.len (by decide)
    rw [List.map_append]
    show Ends _ fun ρ' fl => fl = .next ∧ ∃ ex', ρ' = nE x (pre.map lineV ++ [lineV l]) (nm "line" (.str l) :: ex') ∧ ex' = []
    generalize pre.map lineV = B at hp
    have hB : (B.map D.str).length ≤ 1000000 := by rw [List.length_map]; exact hp
    have test : ∀ {c : Bool}, l.any c4 = c → pt (pe G fuL (dd 10).scope.names) fuL (match (dd 10).body with | [_, .For _ _ [.If t _ _ _] _ _, _] => t | _ => default) (nE x B [nm "line" (.str l)]) = some c := by
      intro c hc
      rw [← hc, ← filter_empty c4 (fun c => D.str [c]) l]
      refine T_cmp (E_comp (items := l.map fun c => D.str [c]) rfl rfl (I_str rfl (E_name rfl) hll) (F_filter (c := c4) (h := fun c => D.str [c]) ?_) ?_) (E_list C_nil (by decide)) rfl rfl (pc_neNil _)
      · exact fun c _ => Tu_if rfl (Fi_one (T_call (E_callG rfl h4 (C_cons rfl (E_nameC rfl) C_nil) (h4' c)))) (E_nameC rfl)
      · rw [List.length_map]; exact Nat.le_trans (List.length_filter_le _ _) hll
    refine' N_seq (N_last ?i3)
    case i3 =>
    cases hc : l.any c4 with
    | true =>
      have ev : lineV l = [63] := by unfold lineV; rw [if_pos hc]
      rw [ev]
      refine N_ift (test hc) rfl (N_seq (N_to (nE x (B ++ [[63]]) [nm "line" (.str l)]) (S_append rfl rfl rfl (C_cons rfl (E_constS kk_q) C_nil) hB) ?_ (N_nil ⟨rfl, [], rfl, rfl⟩)))
      unfold nE
      rw [List.map_append]
      rfl
    | false =>
      have ev : lineV l = l.flatMap (rd T) := by unfold lineV; rw [if_neg (by rw [hc]; decide)]
      have hs := ok.some hc
      have hno : ∀ c ∈ l, c4 c = false := by
        intro c hm
        cases h : c4 c with
        | false => rfl
        | true =>
          have : l.any c4 = true := List.any_eq_true.mpr ⟨c, hm, h⟩
          rw [hc] at this; cases this
      have hb1 : ∀ c ∈ l, (!b1Nums.contains c) = false → rd T c = [] := by
        intro c hm h
        have h : b1Nums.contains c = true := by simpa using h
        unfold rd rdO
        rw [if_neg (by rw [hno c hm]; decide), if_pos h]; rfl
      have hk := keep_flat (fun c => !b1Nums.contains c) (rd T) l hb1
      refine' N_iff (test hc) rfl (N_seq (N_to (nE x (B ++ [lineV l]) [nm "line" (.str l)]) (S_append (d := .str (lineV l)) rfl rfl rfl (C_cons rfl (E_meth1 rfl (E_constS PySem.W.KWk.none_list) (V_cons rfl (E_comp (items := l.map fun c => D.str [c]) rfl rfl (I_str rfl (E_name rfl) hll) (F_filter (c := fun c => !b1Nums.contains c) (h := fun c => D.str (rd T c)) ?f4) ?l4) V_nil) ?j4) C_nil) hB) ?q4 (N_nil ⟨rfl, [], rfl, rfl⟩)))
      case f4 =>
        intro c hm
        cases h : b1Nums.contains c with
        | true =>
          rw [if_neg (by decide)]
          exact Tu_skip rfl (Fi_one (T_not (T_call (E_callG rfl h1 (C_cons rfl (E_nameC rfl) C_nil) (by rw [h1', h])))))
        | false =>
          rw [if_pos (by decide)]
          have h5 : rdO T c = b3Look T c := rdO_lo (hno c hm) h
          have h6 : b3Look T c = some (rd T c) := by
            unfold rd
            rw [← h5]
            obtain ⟨z, hz⟩ := Option.isSome_iff_exists.mp (hs c hm)
            rw [hz]; rfl
          exact Tu_elt rfl (Fi_one (T_not (T_call (E_callG rfl h1 (C_cons rfl (E_nameC rfl) C_nil) (by rw [h1', h]))))) (E_callG rfl h3 (C_cons rfl (E_nameC rfl) C_nil) (by rw [h3', h6]; rfl))
      case l4 => rw [List.length_map]; exact Nat.le_trans (List.length_filter_le _ _) hll
      case j4 =>
        rw [ev, ← hk]
        refine me_joinF _ _ ?_
        rw [hk]
        exact Nat.le_trans (Nat.add_le_add ok.vlen (Nat.le_trans (List.length_filter_le _ _) ok.len)) (by decide)
      case q4 =>
        unfold nE
        rw [List.map_append]
        rfl
end Row3
end Mine
end
section
open PySem PySem.W PyProof.Rows PySem.Challenge
set_option Elab.async false
set_option maxRecDepth 100000
namespace Mine
namespace Row3
noncomputable def hits (R : List Nat) (j i : Nat) : Bool := [L (R.getD i 0 % 3)] == [L (R.getD j 0 / 3)]
noncomputable def cW (R : List Nat) (C : List (List Nat)) (ch j : Nat) : Nat := if (ch / 2 ^ j % 2 == 0) = true then 0 else if (ch - 2 ^ j == 0) = true then 1 else
  (((List.range R.length).filter (hits R j)).map fun i => (C.getD (ch - 2 ^ j) []).getD i 0).sum
noncomputable def way (R : List Nat) (C : List (List Nat)) (ch : Nat) : List Nat := (List.range R.length).map (cW R C ch)
noncomputable def CL (R : List Nat) : Nat → List (List Nat)
  | 0 => [[]]
  | k + 1 => CL R k ++ [way R (CL R k) (k + 1)]
noncomputable def orders (R : List Nat) : List Nat := ((CL R (2 ^ R.length - 1)).drop 1).map List.sum
theorem CL_len (R : List Nat) : ∀ k, (CL R k).length = k + 1
  | 0 => rfl
  | k + 1 => by
    show (CL R k ++ [_]).length = _
    rw [List.length_append, CL_len R k]; rfl
theorem CL_get (R : List Nat) : ∀ (n k : Nat), k < n → (CL R n).getD (k + 1) [] = way R (CL R k) (k + 1)
  | n + 1, k, h => by
    show (CL R n ++ [_]).getD (k + 1) [] = _
    rw [List.getD_eq_getElem?_getD]
    by_cases e : k = n
    · subst e
      rw [List.getElem?_append_right (by rw [CL_len]; exact Nat.le_refl _), CL_len, Nat.sub_self]; rfl
    · have hk : k < n := Nat.lt_of_le_of_ne (Nat.le_of_lt_succ h) e
      rw [List.getElem?_append_left (by rw [CL_len]; exact Nat.succ_lt_succ hk), ← List.getD_eq_getElem?_getD]
      exact CL_get R n k hk
theorem way_len (R : List Nat) (C : List (List Nat)) (ch : Nat) : (way R C ch).length = R.length := by unfold way; rw [List.length_map, List.length_range]
noncomputable def roadsD (R : List Nat) : D := .list (R.map fun k => D.str (ps k))
noncomputable def natsD (C : List (List Nat)) : D := .list (C.map intsD)
noncomputable def oE (R : List Nat) (C : List (List Nat)) (e : PEnv) : PEnv := [nm "lines" (roadsD R), (Str.ofString "counts", true, natsD C)] ++ e
theorem range_mid {n : Nat} {pre post : List Nat} {k : Nat} (e : List.range' 1 n = pre ++ k :: post) : k = pre.length + 1 ∧ k ≤ n := by
  have h2 := congrArg List.length e
  rw [List.length_range', List.length_append] at h2
  have h3 : pre.length < n := by rw [h2]; exact Nat.lt_add_of_pos_right (Nat.succ_pos _)
  have h1 := congrArg (·[pre.length]?) e
  simp only [List.getElem?_append_right (Nat.le_refl _), Nat.sub_self, List.getElem?_cons_zero] at h1
  rw [List.getElem?_range' h3] at h1
  have h4 := Option.some.inj h1
  rw [Nat.one_mul, Nat.add_comm] at h4
  exact ⟨h4.symm, h4 ▸ h3⟩
theorem pi_last (a b : Nat) : pidx (.str [a, b]) (.int (-1)) = some (.str [b]) := rfl
theorem bit_le {ch j : Nat} (h : (ch / 2 ^ j % 2 == 0) = false) : 2 ^ j ≤ ch := by
  rcases Nat.lt_or_ge ch (2 ^ j) with h' | h'
  · rw [Nat.div_eq_of_lt h'] at h; cases h
  · exact h'
theorem sub_nat {ch p : Nat} (h : p ≤ ch) : ((ch : Int) - (p : Int)) = ((ch - p : Nat) : Int) := (Int.ofNat_sub h).symm
theorem orders_ok {G : Tab} (hL : G.lookup (Str.ofString "len") = none) (hS : G.lookup (Str.ofString "sum") = none) (R : List Nat) (hR : R.length ≤ 4) : fn G 11 [roadsD R] = some (intsD (orders R)) := by
  have hRM : R.length ≤ 1000000 := Nat.le_trans hR (by decide)
  have h16 : 2 ^ R.length ≤ 16 := Nat.pow_le_pow_right (n := 2) (by decide) hR
  have h1p : 1 ≤ 2 ^ R.length := Nat.one_le_two_pow
  have hlen : ∀ {ρ : PEnv} {n : Fu} {sc : List (Str × NameKind)} {p q r : Pos}, sc.lookup (Str.ofString "len") = some .globalImplicit → ρ.lookup (Str.ofString "lines") = some (false, roadsD R) → pe G (.s (.s n)) sc (.Call (.Name (Str.ofString "len") p) [.Name (Str.ofString "lines") q] [] r) ρ = some (true, .int ((R.length : Nat) : Int)) := by
    intro ρ n sc p q r h1 h2
    have := bi_lenL (R.map fun k => D.str (ps k)) (by rw [List.length_map]; exact hRM)
    rw [List.length_map] at this
    exact E_callB h1 hL (V_cons rfl (E_name h2) V_nil) this
  have hline : ∀ {ρ : PEnv} {n : Fu} {sc : List (Str × NameKind)} {p q r : Pos} {x : Str} {i : Nat}, ρ.lookup (Str.ofString "lines") = some (false, roadsD R) → ρ.lookup x = some (false, .int (i : Int)) → i < R.length → pe G (.s (.s n)) sc (.Subscript (.Name (Str.ofString "lines") p) (.Name x q) r) ρ = some (true, .str (ps (R.getD i 0))) :=
    fun h1 h2 hi => E_sub rfl (E_name h1) (E_name h2) (pi_mapL (fun k => D.str (ps k)) R _ 0 hi hRM)
  have ret : ∀ ex, (ex = [] ∨ (∃ d, ex = [nm "chosen" d]) ∨ ∃ d v1 v2 v3, ex = [nm "chosen" d, nm "ways" v1, nm "j" v2, nm "rest" v3]) → Ends (pseq (pxStep (dd 11).scope.names (pe G fuL (dd 11).scope.names) fuL (muts 8 (dd 11).body) (px (dd 11).scope.names (pe G fuL (dd 11).scope.names) fuL (muts 8 (dd 11).body) (.s (.s (.s (.s (.s (.s (.s (.s (.s (.s (.s (.s (.s (.s (.s .z))))))))))))))))) ((dd 11).body.drop 2) (oE R (CL R (2 ^ R.length - 1)) ex)) fun _ fl => fl = .ret (intsD (orders R)) := by
    intro ex hex
    have hcl : (CL R (2 ^ R.length - 1)).length ≤ 16 := by rw [CL_len, Nat.sub_add_cancel h1p]; exact h16
    refine' N_ret (S_ret rfl (E_comp (items := ((CL R (2 ^ R.length - 1)).drop 1).map intsD) rfl rfl ?i1 (F_map1 (k := fun w : List Nat => D.int ((w.sum : Nat) : Int)) ?f1) ?l1)) ?e1
    case i1 =>
      have := sl_hi (x := 1) (i := 1) (l := (CL R (2 ^ R.length - 1)).map intsD) rfl (by decide) (by rw [List.length_map]; exact Nat.le_trans hcl (by decide))
      rw [← List.map_drop] at this
      exact I_list rfl (E_slice (E_name rfl) (Bd_some (E_const rfl)) Bd_none this) (by rw [List.length_map, List.length_drop]; exact Nat.le_trans (Nat.sub_le _ _) (Nat.le_trans hcl (by decide)))
    case f1 =>
      intro w hw
      have hwl : w.length ≤ 4 := by
        obtain ⟨i, hi, e⟩ := List.mem_iff_getElem.mp (List.mem_of_mem_drop hw)
        have hi' : i < 2 ^ R.length - 1 + 1 := by rw [← CL_len R]; exact hi
        have e2 : (CL R (2 ^ R.length - 1)).getD i [] = w := by rw [List.getD_eq_getElem?_getD, List.getElem?_eq_getElem hi, e]; rfl
        cases i with
        | zero =>
          have e3 : ∀ n, (CL R n).getD 0 [] = [] := by
            intro n
            induction n with
            | zero => rfl
            | succ n ih =>
              show (CL R n ++ [_]).getD 0 [] = _
              rw [List.getD_eq_getElem?_getD, List.getElem?_append_left (by rw [CL_len]; exact Nat.succ_pos _), ← List.getD_eq_getElem?_getD, ih]
          rw [e3] at e2
          rw [← e2]; decide
        | succ i =>
          rw [CL_get R _ i (Nat.lt_of_succ_lt_succ hi')] at e2
          rw [← e2, way_len]; exact hR
      rcases hex with rfl | ⟨d, rfl⟩ | ⟨d, v1, v2, v3, rfl⟩ <;> exact Tu_elt rfl Fi_nil (E_callB rfl hS (V_cons rfl (E_name rfl) V_nil) (bi_sumN w (Nat.le_trans hwl (by decide))))
    case l1 => rw [List.length_map, List.length_drop]; exact Nat.le_trans (Nat.sub_le _ _) (Nat.le_trans hcl (by decide))
    case e1 =>
      show PFlow.ret _ = .ret (intsD (((CL R (2 ^ R.length - 1)).drop 1).map List.sum))
      unfold intsD
      rw [List.map_map]
      rfl
  refine' N_def _ rfl rfl (N_seq (N_to (oE R (CL R 0) []) (S_list rfl (C_cons rfl (E_list C_nil (by decide)) C_nil) (show 1 ≤ 1000000 by decide)) rfl ?r1))
  case r1 =>
  refine' N_for0 (fun k : Nat => D.int (k : Int)) (fun pre d ex => oE R (CL R pre.length) (nm "chosen" d :: ex)) (fun ex => ex = [] ∨ ∃ v1 v2 v3, ex = [nm "ways" v1, nm "j" v2, nm "rest" v3]) [] rfl (I_rangeN2 (a := 1) (n := 2 ^ R.length) rfl (V_cons rfl (E_const rfl) (V_cons rfl (E_bin (E_const rfl) (hlen rfl rfl) (lf_pow (lit 2) rfl (by decide) (Nat.le_trans hR (by decide)))) V_nil)) (Nat.le_trans h16 (by decide)) h1p) (fun _ _ _ _ => rfl) (fun _ => rfl) (.inl rfl) ?b2 ?z2 ?r2
  case z2 =>
    intro h
    have := ret [] (.inl rfl)
    have e := congrArg List.length h
    rw [List.length_range'] at e
    rw [e] at this
    exact this
  case r2 =>
    intro d ex hex
    rw [List.length_range']
    refine ret _ ?_
    rcases hex with rfl | ⟨v1, v2, v3, rfl⟩
    · exact .inr (.inl ⟨_, rfl⟩)
    · exact .inr (.inr ⟨_, _, _, _, rfl⟩)
  case b2 =>
    intro pre ch post ex e hex
    obtain ⟨hk, hkn⟩ := range_mid e
    have hch : ch < 2 ^ R.length := Nat.lt_of_le_of_lt hkn (Nat.sub_lt h1p (by decide))
    have hR0 : 1 ≤ R.length := by
      rcases Nat.eq_zero_or_pos R.length with h | h
      · rw [h, hk] at hch
        exact absurd hch (Nat.not_lt.mpr (Nat.succ_le_succ (Nat.zero_le _)))
      · exact h
    rw [List.length_append, show pre.length + [ch].length = ch by rw [hk]; rfl]
    have hk1 : pre.length = ch - 1 := by rw [hk]; rfl
    have hCk : CL R ch = CL R pre.length ++ [way R (CL R pre.length) ch] := by rw [hk]; rfl
    have hCl := CL_len R pre.length
    have hC16 : (CL R pre.length).length ≤ 1000000 := by rw [hCl, ← hk]; exact Nat.le_trans (Nat.le_of_lt hch) (Nat.le_trans h16 (by decide))
    have hget : ∀ i, i + 1 ≤ pre.length → ((CL R pre.length).getD (i + 1) []).length = R.length := fun i hi => by rw [CL_get R _ i hi, way_len]
    generalize CL R pre.length = C at hCk hCl hC16 hget
    refine' N_seq (N_to (oE R C (nm "chosen" (.int (ch : Int)) :: (Str.ofString "ways", true, intsD []) :: ex.tail)) (S_list rfl C_nil (by decide)) ?q3 ?r3)
    case q3 => rcases hex with rfl | ⟨v1, v2, v3, rfl⟩ <;> rfl
    case r3 =>
    refine' N_for (fun w : Nat => D.int (w : Int)) (fun pre' d ex' => oE R C (nm "chosen" (.int (ch : Int)) :: (Str.ofString "ways", true, intsD (pre'.map (cW R C ch))) :: nm "j" d :: ex')) (fun ex' => ex' = [] ∨ ∃ v, ex' = [nm "rest" v]) (fun ex' => ∃ v, ex' = [nm "rest" v]) ex.tail.tail rfl (I_rangeN (n := R.length) rfl (V_cons rfl (hlen rfl ?h4) V_nil) hRM) (fun _ _ _ _ => rfl) ?h5 ?h6 ?h7 (fun _ h => .inr h) ?b4 ?r4
    case h4 => rcases hex with rfl | ⟨v1, v2, v3, rfl⟩ <;> rfl
    case h5 => intro d; rcases hex with rfl | ⟨v1, v2, v3, rfl⟩ <;> rfl
    case h6 =>
      rcases hex with rfl | ⟨v1, v2, v3, rfl⟩
      · exact .inl rfl
      · exact .inr ⟨_, rfl⟩
    case h7 =>
      intro h
      have := congrArg List.length h
      rw [List.length_range] at this
      rw [this] at hR0
      cases hR0
    case r4 =>
      intro d ex' hex'
      obtain ⟨v, rfl⟩ := hex'
      refine' N_to (oE R (CL R ch) [nm "chosen" (.int (ch : Int)), nm "ways" (intsD (way R C ch)), nm "j" d, nm "rest" v]) (S_appendO rfl rfl rfl rfl (by rw [List.length_map]; exact hC16)) ?q5 (N_nil ⟨rfl, _, rfl, .inr ⟨_, _, _, rfl⟩⟩)
      case q5 =>
        rw [hCk]
        show _ = [_, (Str.ofString "counts", true, natsD (_ ++ [_])), _, _, _, _]
        unfold natsD
        rw [List.map_append]
        rfl
    case b4 =>
      intro pre' j post' ex' e' hex'
      have hj : j < R.length := List.mem_range.mp (by rw [e']; simp)
      have hj4 : j ≤ 64 := Nat.le_trans (Nat.le_of_lt hj) (Nat.le_trans hR (by decide))
      have hw : ((pre'.map (cW R C ch)).map fun n : Nat => D.int (n : Int)).length ≤ 1000000 := by
        rw [List.length_map, List.length_map]
        refine Nat.le_trans (Nat.le_of_lt (pre_le e')) ?_
        rw [List.length_range]; exact hRM
      have hp2 : 2 ^ j < 1073741824 := Nat.lt_of_le_of_lt (Nat.pow_le_pow_right (n := 2) (by decide) (Nat.le_of_lt hj)) (Nat.lt_of_le_of_lt h16 (by decide))
      have hp0 : 2 ^ j ≠ 0 := Nat.ne_of_gt (Nat.two_pow_pos j)
      rw [List.map_append]
      show Ends _ fun ρ' fl => fl = .next ∧ ∃ ex', ρ' = oE R C (nm "chosen" (.int (ch : Int)) :: (Str.ofString "ways", true, intsD (pre'.map (cW R C ch) ++ [cW R C ch j])) :: nm "j" (.int (j : Int)) :: ex') ∧ ∃ v, ex' = [nm "rest" v]
      generalize pre'.map (cW R C ch) = W at hw
      refine' N_seq (N_to (oE R C [nm "chosen" (.int (ch : Int)), (Str.ofString "ways", true, intsD W), nm "j" (.int (j : Int)), nm "rest" (.int ((ch : Int) - ((2 ^ j : Nat) : Int)))]) (S_assign rfl rfl (E_bin (E_name rfl) (E_bin (E_const rfl) (E_name rfl) (lf_pow (lit 2) rfl (by decide) hj4)) rfl)) ?q6 (N_last ?i6))
      case q6 => rcases hex' with rfl | ⟨v, rfl⟩ <;> rfl
      case i6 =>
      have fin : ∀ {k : Fu} {e : Expr} {p1 p2 p3 p4 : Pos} {v : D}, (p2.endLine == p3.line) = true → notName e = true → pclean (pe G fuL (dd 11).scope.names) [e] (oE R C [nm "chosen" (.int (ch : Int)), (Str.ofString "ways", true, intsD W), nm "j" (.int (j : Int)), nm "rest" v]) = some [.int ((cW R C ch j : Nat) : Int)] → Ends (pseq (pxStep (dd 11).scope.names (pe G fuL (dd 11).scope.names) fuL (muts 8 (dd 11).body) (px (dd 11).scope.names (pe G fuL (dd 11).scope.names) fuL (muts 8 (dd 11).body) k)) [.Expr (.Call (.Attribute (.Name (Str.ofString "ways") p1) (Str.ofString "append") p2) [e] [] p3) p4] (oE R C [nm "chosen" (.int (ch : Int)), (Str.ofString "ways", true, intsD W), nm "j" (.int (j : Int)), nm "rest" v])) fun ρ' fl => fl = .next ∧ ∃ ex', ρ' = oE R C (nm "chosen" (.int (ch : Int)) :: (Str.ofString "ways", true, intsD (W ++ [cW R C ch j])) :: nm "j" (.int (j : Int)) :: ex') ∧ ∃ v, ex' = [nm "rest" v] := by
        intro k e p1 p2 p3 p4 v h1 h2 h3
        refine N_to (oE R C [nm "chosen" (.int (ch : Int)), (Str.ofString "ways", true, intsD (W ++ [cW R C ch j])), nm "j" (.int (j : Int)), nm "rest" v]) (S_append (by rw [h1]; rfl) rfl h2 h3 hw) ?_ (N_nil ⟨rfl, _, rfl, v, rfl⟩)
        unfold intsD
        rw [List.map_append]
        rfl
      cases hb : (ch / 2 ^ j % 2 == 0) with
      | true =>
        have ec : cW R C ch j = 0 := by unfold cW; rw [if_pos hb]
        refine N_ift (T_cmp (E_bin (E_bin (E_name rfl) (E_bin (E_const rfl) (E_name rfl) (lf_pow (lit 2) rfl (by decide) hj4)) (lf_div rfl rfl hp0 hp2)) (E_const rfl) (lf_mod rfl (lit 2) (by decide))) (E_const rfl) rfl rfl (lf_eq rfl (lit 0))) hb (N_seq (fin rfl rfl ?_))
        rw [ec]
        exact C_cons rfl (E_const rfl) C_nil
      | false =>
        have hle := bit_le hb
        refine N_iff (T_cmp (E_bin (E_bin (E_name rfl) (E_bin (E_const rfl) (E_name rfl) (lf_pow (lit 2) rfl (by decide) hj4)) (lf_div rfl rfl hp0 hp2)) (E_const rfl) (lf_mod rfl (lit 2) (by decide))) (E_const rfl) rfl rfl (lf_eq rfl (lit 0))) hb (N_seq (N_last ?_))
        have hsn := sub_nat hle
        cases hz : (ch - 2 ^ j == 0) with
        | true =>
          have ec : cW R C ch j = 1 := by unfold cW; rw [if_neg (by rw [hb]; decide), if_pos hz]
          refine N_ift (T_cmp (E_name rfl) (E_const rfl) rfl rfl (lf_eq hsn (lit 0))) hz (N_seq (fin rfl rfl ?_))
          rw [ec]
          exact C_cons rfl (E_const rfl) C_nil
        | false =>
          have ec : cW R C ch j = (((List.range R.length).filter (hits R j)).map fun i => (C.getD (ch - 2 ^ j) []).getD i 0).sum := by unfold cW; rw [if_neg (by rw [hb]; decide), if_neg (by rw [hz]; decide)]
          have hne : ch - 2 ^ j ≠ 0 := by simpa using hz
          obtain ⟨r, hr⟩ : ∃ r, ch - 2 ^ j = r + 1 := Nat.exists_eq_succ_of_ne_zero hne
          have hrl : r + 1 ≤ pre.length := by
            rw [← hr, hk1]
            exact Nat.sub_le_sub_left (Nat.two_pow_pos j) ch
          have hgl : (C.getD (ch - 2 ^ j) []).length = R.length := by rw [hr]; exact hget r hrl
          have hrC : ch - 2 ^ j < C.length := by rw [hCl, hr]; exact Nat.lt_succ_of_le hrl
          have hsum := bi_sumN (((List.range R.length).filter (hits R j)).map fun i => (C.getD (ch - 2 ^ j) []).getD i 0) (by
            rw [List.length_map]
            refine Nat.le_trans (List.length_filter_le _ _) ?_
            rw [List.length_range]; exact hRM)
          rw [List.map_map, ← ec] at hsum
          refine' N_iff (T_cmp (E_name rfl) (E_const rfl) rfl rfl (lf_eq hsn (lit 0))) hz (N_seq (fin rfl rfl (C_cons rfl (E_callB rfl hS (V_cons rfl (E_comp rfl rfl (I_rangeN (n := R.length) rfl (V_cons rfl (hlen rfl rfl) V_nil) hRM) (F_filter (c := hits R j) (h := fun i : Nat => D.int (((C.getD (ch - 2 ^ j) []).getD i 0 : Nat) : Int)) ?f8) ?l8) V_nil) hsum) C_nil)))
          case l8 =>
            rw [List.length_map]
            refine Nat.le_trans (List.length_filter_le _ _) ?_
            rw [List.length_range]; exact hRM
          case f8 =>
            intro i hi
            have hi' := List.mem_range.mp hi
            refine Tu_if rfl (Fi_one (T_cmp (E_sub rfl (hline rfl rfl hi') (E_neg (E_const rfl)) (pi_last _ _)) (E_sub rfl (hline rfl rfl hj) (E_const rfl) rfl) rfl rfl (pcs_eq _ _))) (E_sub rfl (E_sub rfl (E_name rfl) (E_name rfl) (a := natsD C) (b := .int ((ch : Int) - ((2 ^ j : Nat) : Int))) (d := intsD (C.getD (ch - 2 ^ j) [])) ?_) (E_name rfl) (pi_mapL (fun n : Nat => D.int (n : Int)) _ i 0 (by rw [hgl]; exact hi') (by rw [hgl]; exact hRM)))
            rw [hsn]
            exact pi_mapL intsD C _ [] hrC hC16
end Row3
end Mine
end
section
open PySem PySem.W PyProof.Rows PySem.Challenge
set_option Elab.async false
set_option maxRecDepth 100000
namespace Mine
namespace Row3
noncomputable def outP (c k : Nat) : Bool := [L (k / 3)] == [c]
noncomputable def innP (c k : Nat) : Bool := [L (k % 3)] == [c]
noncomputable def used (S : List Nat) : List Nat := [102, 105, 108].filter fun c => S.any (outP c)
noncomputable def turn (S : List Nat) (acc c : Nat) : Nat := (List.range' 1 ((S.filter (outP c)).length - 1)).foldl (· * ·) acc
noncomputable def rgs (S : List Nat) : Nat := (used S).foldl (turn S) 1
noncomputable def cn (S : List Nat) (y : List Nat) : Nat := (S.map ps).count y
noncomputable def rings (S : List Nat) : Nat := if ((used S).length == 2) = true then rgs S * cn S ([(used S).getD 1 0] ++ [(used S).getD 0 0]) else if ((used S).length == 3) = true then
  rgs S * (cn S [105, 102] * cn S [108, 102] + cn S [108, 105] * cn S [105, 102] + cn S [105, 108] * cn S [108, 102]) else rgs S
theorem fold_le : ∀ (l : List Nat) (a : Nat), (∀ x ∈ l, x ≤ 4) → l.foldl (· * ·) a ≤ a * 4 ^ l.length
  | [], a, _ => by rw [List.length_nil, Nat.pow_zero, Nat.mul_one]; exact Nat.le_refl _
  | x :: l, a, h => by
    refine Nat.le_trans (fold_le l (a * x) fun y hy => h y (List.mem_cons_of_mem _ hy)) ?_
    rw [List.length_cons, Nat.pow_succ, Nat.mul_comm (4 ^ l.length), ← Nat.mul_assoc]
    exact Nat.mul_le_mul_right _ (Nat.mul_le_mul_left _ (h x List.mem_cons_self))
theorem range_le {n : Nat} (h : n ≤ 5) : (∀ x ∈ List.range' 1 (n - 1), x ≤ 4) ∧ (List.range' 1 (n - 1)).length ≤ 4 := by
  constructor
  · intro x hx
    have := (List.mem_range'_1.mp hx).2
    omega
  · rw [List.length_range']; exact Nat.sub_le_sub_right h 1
theorem turn_le {S : List Nat} (h : S.length ≤ 5) (acc c : Nat) : turn S acc c ≤ acc * 256 := by
  have hl := range_le (Nat.le_trans (List.length_filter_le (outP c) S) h)
  exact Nat.le_trans (fold_le _ acc hl.1) (Nat.mul_le_mul_left _ (Nat.pow_le_pow_right (n := 4) (by decide) hl.2))
theorem turns_le {S : List Nat} (h : S.length ≤ 5) : ∀ (l : List Nat) (a : Nat), l.foldl (turn S) a ≤ a * 256 ^ l.length
  | [], a => by rw [List.length_nil, Nat.pow_zero, Nat.mul_one]; exact Nat.le_refl _
  | x :: l, a => by
    refine Nat.le_trans (turns_le h l (turn S a x)) ?_
    rw [List.length_cons, Nat.pow_succ, Nat.mul_comm (256 ^ l.length), ← Nat.mul_assoc]
    exact Nat.mul_le_mul_right _ (turn_le h a x)
theorem used_len (S : List Nat) : (used S).length ≤ 3 := List.length_filter_le _ _
theorem rgs_le {S : List Nat} (h : S.length ≤ 5) : rgs S ≤ 16777216 := by
  refine Nat.le_trans (turns_le h (used S) 1) ?_
  rw [Nat.one_mul]
  exact Nat.le_trans (Nat.pow_le_pow_right (n := 256) (by decide) (used_len S)) (by decide)
theorem cn_le {S : List Nat} (h : S.length ≤ 5) (y : List Nat) : cn S y ≤ 5 := Nat.le_trans List.count_le_length (by rw [List.length_map]; exact h)
theorem rings_le {S : List Nat} (h : S.length ≤ 5) : rings S ≤ 2000000000 := by
  have h1 := rgs_le h
  unfold rings
  split
  · exact Nat.le_trans (Nat.mul_le_mul h1 (cn_le h _)) (by decide)
  · split
    · exact Nat.le_trans (Nat.mul_le_mul h1 (Nat.add_le_add (Nat.add_le_add (Nat.mul_le_mul (cn_le h _) (cn_le h _)) (Nat.mul_le_mul (cn_le h _) (cn_le h _))) (Nat.mul_le_mul (cn_le h _) (cn_le h _)))) (by decide)
    · exact Nat.le_trans h1 (by decide)
theorem big_nat {a : Nat} (h : a ≤ 2000000000) : big (a : Int) = true := by
  unfold big
  rw [Int.natAbs_natCast]
  exact decide_eq_true (Nat.lt_of_le_of_lt h (by decide))
theorem pb_mulB {a b : Nat} (ha : a ≤ 2000000000) (hb : b ≤ 2000000000) : pbin .Mult (.int (a : Int)) (.int (b : Int)) = some (.int ((a * b : Nat) : Int)) := by
  show (if (big a && big b) = true then some (D.int ((a : Int) * b)) else none) = _
  rw [if_pos (by rw [big_nat ha, big_nat hb]; rfl)]; rfl
theorem me_countL (S : List Nat) (y : List Nat) (h : S.length ≤ 1000000) : pmeth (Str.ofString "count") (.list (S.map fun k => D.str (ps k))) [.str y] = some (.int ((cn S y : Nat) : Int)) := by
  have e : (S.map fun k => D.str (ps k)) = (S.map ps).map .str := by rw [List.map_map]; rfl
  rw [e]
  unfold pmeth
  dsimp only
  rw [if_pos (by decide +kernel), if_pos (by rw [List.length_map, List.length_map]; exact h), strs?_map]
  rfl
theorem F_roads {p : Nat → Bool} {f : D → Option (List D)} {S : List Nat} (h : ∀ k, f (.str (ps k)) = some (if p k = true then [.str (ps k)] else [])) : pforeach f (S.map fun k => D.str (ps k)) = some ((S.filter p).map fun k => D.str (ps k)) :=
  F_filter fun k _ => h k
noncomputable def gE (S : List Nat) (e : PEnv) : PEnv := [nm "roads" (roadsD S), nm "used" (.list ((used S).map fun c => D.str [c]))] ++ e
theorem ps_0 (k : Nat) : pidx (.str (ps k)) (.int 0) = some (.str [L (k / 3)]) := rfl
theorem ps_1 (k : Nat) : pidx (.str (ps k)) (.int 1) = some (.str [L (k % 3)]) := rfl
theorem rings_ok {G : Tab} (hL : G.lookup (Str.ofString "len") = none) (S : List Nat) (hS : S.length ≤ 5) : fn G 12 [roadsD S] = some (.int ((rings S : Nat) : Int)) := by
  have hSM : S.length ≤ 1000000 := Nat.le_trans hS (by decide)
  have hSD : (S.map fun k => D.str (ps k)).length ≤ 1000000 := by rw [List.length_map]; exact hSM
  have hul := used_len S
  have hfl : ∀ c, ((S.filter (outP c)).map fun k => D.str (ps k)).length ≤ 5 := fun c => by rw [List.length_map]; exact Nat.le_trans (List.length_filter_le _ _) hS
  have hfM : ∀ c, ((S.filter (outP c)).map fun k => D.str (ps k)).length ≤ 1000000 := fun c => Nat.le_trans (hfl c) (by decide)
  refine' N_def _ rfl rfl (N_seq (N_to (gE S []) (S_assign rfl rfl (E_comp (items := [102, 105, 108].map fun c => D.str [c]) rfl rfl (I_str rfl (E_constS kk_fil) (by decide)) (F_filter (c := fun c => S.any (outP c)) (h := fun c => D.str [c]) ?f1) ?l1)) rfl (N_to (gE S [nm "rings" (.int ((1 : Nat) : Int))]) (S_assign rfl rfl (E_const rfl)) rfl ?r1)))
  case f1 => exact fun c _ => Tu_if rfl (Fi_one (T_cmp (E_comp (items := S.map fun k => D.str (ps k)) rfl rfl (I_list rfl (E_nameC rfl) hSD) (F_roads (p := outP c) fun k => Tu_if rfl (Fi_one (T_cmp (E_sub rfl (E_name rfl) (E_const rfl) (ps_0 k)) (E_name rfl) rfl rfl (pcs_eq _ _))) (E_nameC rfl)) (hfM c)) (E_list C_nil (by decide)) rfl rfl ((pc_neNil _).trans (congrArg some (filter_empty (outP c) _ S))))) (E_nameC rfl)
  case l1 => rw [List.length_map]; exact Nat.le_trans hul (by decide)
  case r1 =>
  have ret : ∀ ex, Ends (pseq (pxStep (dd 12).scope.names (pe G fuL (dd 12).scope.names) fuL (muts 8 (dd 12).body) (px (dd 12).scope.names (pe G fuL (dd 12).scope.names) fuL (muts 8 (dd 12).body) (.s (.s (.s (.s (.s (.s (.s (.s (.s (.s (.s (.s (.s (.s (.s .z))))))))))))))))) ((dd 12).body.drop 3) (gE S (nm "rings" (.int ((rgs S : Nat) : Int)) :: ex))) fun _ fl => fl = .ret (.int ((rings S : Nat) : Int)) := by
    intro ex
    have hlu : pbuiltin (Str.ofString "len") [.list ((used S).map fun c => D.str [c])] = some (.int ((used S).length : Nat)) := by
      have := bi_lenL ((used S).map fun c => D.str [c]) (by rw [List.length_map]; exact Nat.le_trans hul (by decide))
      rw [List.length_map] at this
      exact this
    have h1 := rgs_le hS
    have cM : ∀ y, cn S y ≤ 2000000000 := fun y => Nat.le_trans (cn_le hS y) (by decide)
    have c9 : ∀ y, cn S y < 1000000000 := fun y => Nat.lt_of_le_of_lt (cn_le hS y) (by decide)
    have h1M : rgs S ≤ 2000000000 := Nat.le_trans h1 (by decide)
    cases h2 : ((used S).length == 2) with
    | true =>
      have e : rings S = rgs S * cn S ([(used S).getD 1 0] ++ [(used S).getD 0 0]) := by unfold rings; rw [if_pos h2]
      have hu : (used S).length = 2 := eq_of_beq h2
      have i1 := pi_mapL (fun c => D.str [c]) (used S) 1 0 (by rw [hu]; decide) (by rw [hu]; decide)
      have i0 := pi_mapL (fun c => D.str [c]) (used S) 0 0 (by rw [hu]; decide) (by rw [hu]; decide)
      rw [e]
      exact N_ret (S_ift (T_cmp (E_callB rfl hL (V_cons rfl (E_name rfl) V_nil) hlu) (E_const rfl) rfl rfl (lf_eq rfl (lit 2))) h2 (X_seq (Q_ret (S_ret rfl (E_bin (E_name rfl) (E_meth1 rfl (E_name rfl) (V_cons rfl (E_bin (E_sub rfl (E_name rfl) (E_const rfl) i1) (E_sub rfl (E_name rfl) (E_const rfl) i0) (pb_addS [(used S).getD 1 0] [(used S).getD 0 0] (show 2 ≤ 1000000 by decide))) V_nil) (me_countL S _ hSM)) (pb_mulB h1M (cM _))))))) rfl
    | false =>
      refine N_to _ (S_iff (T_cmp (E_callB rfl hL (V_cons rfl (E_name rfl) V_nil) hlu) (E_const rfl) rfl rfl (lf_eq rfl (lit 2))) h2 (X_seq Q_nil)) rfl ?_
      cases h3 : ((used S).length == 3) with
      | true =>
        have e : rings S = rgs S * (cn S [105, 102] * cn S [108, 102] + cn S [108, 105] * cn S [105, 102] + cn S [105, 108] * cn S [108, 102]) := by unfold rings; rw [if_neg (by rw [h2]; decide), if_pos h3]
        rw [e]
        exact N_ret (S_ift (T_cmp (E_callB rfl hL (V_cons rfl (E_name rfl) V_nil) hlu) (E_const rfl) rfl rfl (lf_eq rfl (lit 3))) h3 (X_seq (Q_ret (S_ret rfl (E_bin (E_name rfl) (E_bin (E_bin (E_bin (E_meth1 rfl (E_name rfl) (V_cons rfl (E_constS kk_if) V_nil) (me_countL S _ hSM)) (E_meth1 rfl (E_name rfl) (V_cons rfl (E_constS kk_lf) V_nil) (me_countL S _ hSM)) (pb_mul _ _ (c9 _) (c9 _))) (E_bin (E_meth1 rfl (E_name rfl) (V_cons rfl (E_constS kk_li) V_nil) (me_countL S _ hSM)) (E_meth1 rfl (E_name rfl) (V_cons rfl (E_constS kk_if) V_nil) (me_countL S _ hSM)) (pb_mul _ _ (c9 _) (c9 _))) (pb_add _ _)) (E_bin (E_meth1 rfl (E_name rfl) (V_cons rfl (E_constS kk_il) V_nil) (me_countL S _ hSM)) (E_meth1 rfl (E_name rfl) (V_cons rfl (E_constS kk_lf) V_nil) (me_countL S _ hSM)) (pb_mul _ _ (c9 _) (c9 _))) (pb_add _ _)) (pb_mulB h1M (Nat.le_trans (Nat.add_le_add (Nat.add_le_add (Nat.mul_le_mul (cn_le hS _) (cn_le hS _)) (Nat.mul_le_mul (cn_le hS _) (cn_le hS _))) (Nat.mul_le_mul (cn_le hS _) (cn_le hS _))) (by decide)))))))) rfl
      | false =>
        have e : rings S = rgs S := by unfold rings; rw [if_neg (by rw [h2]; decide), if_neg (by rw [h3]; decide)]
        rw [e]
        exact N_to _ (S_iff (T_cmp (E_callB rfl hL (V_cons rfl (E_name rfl) V_nil) hlu) (E_const rfl) rfl rfl (lf_eq rfl (lit 3))) h3 (X_seq Q_nil)) rfl (N_ret (S_retN rfl rfl) rfl)
  refine' N_for0 (fun c : Nat => D.str [c]) (fun pre d ex => gE S (nm "rings" (.int ((pre.foldl (turn S) 1 : Nat) : Int)) :: nm "letter" d :: ex)) (fun ex => ex = [] ∨ ∃ v, ex = [nm "k" v]) [] rfl (I_list rfl (E_nameC rfl) (by rw [List.length_map]; exact Nat.le_trans hul (by decide))) (fun _ _ _ _ => rfl) (fun _ => rfl) (.inl rfl) ?b2 ?z2 ?r2
  case z2 =>
    intro h
    have := ret []
    have e : rgs S = 1 := by unfold rgs; rw [h]; rfl
    rw [e] at this
    exact this
  case r2 =>
    intro d ex _
    exact ret _
  case b2 =>
    intro pre c post ex e hex
    have hpl : pre.length ≤ 2 := Nat.le_of_lt_succ (Nat.lt_of_lt_of_le (pre_le e) hul)
    have hac : pre.foldl (turn S) 1 ≤ 65536 := by
      refine Nat.le_trans (turns_le hS pre 1) ?_
      rw [Nat.one_mul]
      exact Nat.le_trans (Nat.pow_le_pow_right (n := 256) (by decide) hpl) (by decide)
    rw [List.foldl_append]
    show Ends _ fun ρ' fl => fl = .next ∧ ∃ ex', ρ' = gE S (nm "rings" (.int ((turn S (pre.foldl (turn S) 1) c : Nat) : Int)) :: nm "letter" (.str [c]) :: ex') ∧ (ex' = [] ∨ ∃ v, ex' = [nm "k" v])
    generalize pre.foldl (turn S) 1 = acc at hac
    have hr := range_le (Nat.le_trans (List.length_filter_le (outP c) S) hS)
    have hlf : pbuiltin (Str.ofString "len") [.list ((S.filter (outP c)).map fun k => D.str (ps k))] = some (.int ((S.filter (outP c)).length : Nat)) := by
      have := bi_lenL ((S.filter (outP c)).map fun k => D.str (ps k)) (hfM c)
      rw [List.length_map] at this
      exact this
    have h1l : 1 ≤ (S.filter (outP c)).length := by
      have hm : c ∈ used S := by rw [e]; simp
      obtain ⟨k, hk, hp⟩ := List.any_eq_true.mp (List.mem_filter.mp hm).2
      exact List.length_pos_of_mem (List.mem_filter.mpr ⟨hk, hp⟩)
    have hr : (∀ x ∈ List.range' 1 ((S.filter (outP c)).length - 1), x ≤ 4) ∧ (List.range' 1 ((S.filter (outP c)).length - 1)).length ≤ 4 := hr
    refine' N_seq (N_for0 (l := List.range' 1 ((S.filter (outP c)).length - 1)) (fun k : Nat => D.int (k : Int)) (fun pre' d ex' => gE S (nm "rings" (.int ((pre'.foldl (· * ·) acc : Nat) : Int)) :: nm "letter" (.str [c]) :: nm "k" d :: ex')) (fun ex' => ex' = []) [] rfl (I_rangeN2 (a := 1) (n := (S.filter (outP c)).length) rfl (V_cons rfl (E_const rfl) (V_cons rfl (E_callB rfl hL (V_cons rfl ?n4 V_nil) hlf) V_nil)) (Nat.le_trans (List.length_filter_le _ _) hSM) h1l) (fun _ _ _ _ => rfl) ?s4 rfl ?b4 ?z4 ?r4)
    case n4 => rcases hex with rfl | ⟨v, rfl⟩ <;> exact E_comp (items := S.map fun k => D.str (ps k)) rfl rfl (I_list rfl (E_nameC rfl) hSD) (F_roads (p := outP c) fun k => Tu_if rfl (Fi_one (T_cmp (E_sub rfl (E_name rfl) (E_const rfl) (ps_0 k)) (E_name rfl) rfl rfl (pcs_eq _ _))) (E_nameC rfl)) (hfM c)
    case s4 => intro d; rcases hex with rfl | ⟨v, rfl⟩ <;> rfl
    case z4 =>
      intro h
      have et : turn S acc c = acc := by unfold turn; rw [h]; rfl
      rw [et]
      exact N_nil ⟨rfl, ex, rfl, hex⟩
    case r4 =>
      intro d ex' he
      subst he
      exact N_nil ⟨rfl, _, rfl, .inr ⟨d, rfl⟩⟩
    case b4 =>
      intro pre' k post' ex' e' he
      subst he
      have hk : k ≤ 4 := hr.1 k (by rw [e']; simp)
      have hp : pre'.foldl (· * ·) acc ≤ 65536 * 256 := by
        refine Nat.le_trans (fold_le pre' acc fun x hx => hr.1 x (by rw [e']; exact List.mem_append_left _ hx)) (Nat.mul_le_mul hac ?_)
        exact Nat.pow_le_pow_right (n := 4) (by decide) (Nat.le_trans (Nat.le_of_lt (pre_le e')) hr.2)
      rw [List.foldl_append]
      show Ends _ fun ρ' fl => fl = .next ∧ ∃ ex', ρ' = gE S (nm "rings" (.int ((pre'.foldl (· * ·) acc * k : Nat) : Int)) :: nm "letter" (.str [c]) :: nm "k" (.int (k : Int)) :: ex') ∧ ex' = []
      generalize pre'.foldl (· * ·) acc = a at hp
      refine N_seq (N_to (gE S [nm "rings" (.int ((a * k : Nat) : Int)), nm "letter" (.str [c]), nm "k" (.int (k : Int))]) (S_mulI rfl rfl (E_name rfl) (by rw [big_nat (Nat.le_trans hp (by decide)), big_nat (Nat.le_trans hk (by decide))]; rfl)) rfl (N_nil ⟨rfl, [], rfl, rfl⟩))
end Row3
end Mine
end
section
open PySem PySem.W PyProof.Rows PySem.Challenge
set_option Elab.async false
set_option maxRecDepth 100000
namespace Mine
namespace Row3
noncomputable def more (S : List Nat) : List Int := [102, 105, 108].map fun c => ((S.filter (outP c)).length : Int) - ((S.filter (innP c)).length : Int)
noncomputable def due (S : List Nat) : Nat := if (more S == [0, 0, 0]) = true then S.length * rings S else if ((more S).mergeSort (· ≤ ·) == [-1, 0, 1]) = true then rings (S ++ [3 * (more S).idxOf (-1) + (more S).idxOf 1]) else 0
theorem deqs_ints {f : D → D → Option Bool} (hf : ∀ x y : Int, f (.int x) (.int y) = some (x == y)) : ∀ a b : List Int, a.length = b.length → deqs f (a.map .int) (b.map .int) = some (a == b)
  | [], [], _ => rfl
  | x :: a, y :: b, h => by
    have ih := deqs_ints hf a b (Nat.succ.inj h)
    show (f (.int x) (.int y)).bind (fun u => (deqs f (a.map .int) (b.map .int)).map fun v => u && v) = _
    rw [ih, hf]
    rfl
theorem pc_eqInts (a b : List Int) (h : a.length = b.length) : pcmp .Eq (.list (a.map .int)) (.list (b.map .int)) = some (a == b) := by
  show (if (a.map D.int).length = (b.map D.int).length then deqs _ (a.map D.int) (b.map D.int) else some false) = _
  rw [if_pos (by rw [List.length_map, List.length_map]; exact h)]
  exact deqs_ints (fun _ _ => rfl) a b h
theorem bi_sorted (l : List Int) (h : l.length ≤ 60) (hs : (l.all fun i => decide (i.natAbs < 1000000)) = true) : pbuiltin (Str.ofString "sorted") [.list (l.map .int)] = some (.list ((l.mergeSort (· ≤ ·)).map .int)) := by
  unfold pbuiltin
  rw [if_neg (by decide +kernel), if_neg (by decide +kernel), if_neg (by decide +kernel), if_neg (by decide +kernel), if_pos (by decide +kernel)]
  dsimp only
  rw [if_pos (by rw [List.length_map]; exact h), ints?_map]
  show (if (l.all fun i => decide (i.natAbs < 1000000)) = true then some (D.list ((l.mergeSort (· ≤ ·)).map .int)) else none) = _
  rw [if_pos hs]
theorem me_indexL (l : List Int) (i : Int) (h : l.length ≤ 60) (hs : (l.all fun i => decide (i.natAbs < 1000000)) = true) (hi : l.contains i = true) : pmeth (Str.ofString "index") (.list (l.map .int)) [.int i] = some (.int ((l.idxOf i : Nat) : Int)) := by
  unfold pmeth
  dsimp only
  rw [if_pos (by decide +kernel), if_pos (by rw [List.length_map]; exact h), ints?_map]
  show (if (l.contains i && l.all fun i => decide (i.natAbs < 1000000)) = true then some (D.int (l.idxOf i)) else none) = _
  rw [if_pos (by rw [hs, hi]; rfl)]
theorem more_small {S : List Nat} (h : S.length ≤ 5) : ((more S).all fun i => decide (i.natAbs < 1000000)) = true := by
  rw [List.all_eq_true]
  intro x hx
  obtain ⟨c, _, rfl⟩ := List.mem_map.mp hx
  have h1 := List.length_filter_le (outP c) S
  have h2 := List.length_filter_le (innP c) S
  refine decide_eq_true ?_
  omega
theorem more_has {S : List Nat} (h : ((more S).mergeSort (· ≤ ·) == [-1, 0, 1]) = true) : (more S).contains (-1) = true ∧ (more S).contains 1 = true ∧ (more S).idxOf (-1) < 3 ∧ (more S).idxOf 1 < 3 := by
  have hp := List.mergeSort_perm (more S) (fun a b : Int => decide (a ≤ b))
  rw [eq_of_beq h] at hp
  have h1 : (-1 : Int) ∈ more S := hp.mem_iff.mp (by decide)
  have h2 : (1 : Int) ∈ more S := hp.mem_iff.mp (by decide)
  exact ⟨List.contains_iff_mem.mpr h1, List.contains_iff_mem.mpr h2, List.idxOf_lt_length_of_mem h1, List.idxOf_lt_length_of_mem h2⟩
theorem ps_code {a b : Nat} (hb : b < 3) : ps (3 * a + b) = [L a, L b] := by
  unfold ps
  rw [Nat.mul_add_div (by decide), Nat.div_eq_of_lt hb, Nat.add_zero, Nat.mul_add_mod, Nat.mod_eq_of_lt hb]
noncomputable def uE (S : List Nat) : PEnv := [nm "roads" (roadsD S), nm "more" (.list ((more S).map .int))]
theorem due_ok {G : Tab} {Q : List D → Option D} (hL : G.lookup (Str.ofString "len") = none) (hT : G.lookup (Str.ofString "sorted") = none) (hQ : G.lookup (Str.ofString "_law_rings") = some Q) (hQ' : ∀ S : List Nat, S.length ≤ 5 → Q [roadsD S] = some (.int ((rings S : Nat) : Int)))
    (S : List Nat) (hS : S.length ≤ 4) : fn G 13 [roadsD S] = some (.int ((due S : Nat) : Int)) := by
  have hS5 : S.length ≤ 5 := Nat.le_succ_of_le hS
  have hSD : (S.map fun k => D.str (ps k)).length ≤ 1000000 := by rw [List.length_map]; exact Nat.le_trans hS (by decide)
  have hfM : ∀ p : Nat → Bool, ((S.filter p).map fun k => D.str (ps k)).length ≤ 1000000 := fun p => by rw [List.length_map]; exact Nat.le_trans (List.length_filter_le _ _) (Nat.le_trans hS (by decide))
  have hlf : ∀ p : Nat → Bool, pbuiltin (Str.ofString "len") [.list ((S.filter p).map fun k => D.str (ps k))] = some (.int ((S.filter p).length : Nat)) := by
    intro p
    have := bi_lenL ((S.filter p).map fun k => D.str (ps k)) (hfM p)
    rw [List.length_map] at this
    exact this
  have hls : pbuiltin (Str.ofString "len") [roadsD S] = some (.int (S.length : Nat)) := by
    have := bi_lenL (S.map fun k => D.str (ps k)) hSD
    rw [List.length_map] at this
    exact this
  have hrl := rings_le hS5
  have hms := more_small hS5
  have eS : (more S).map D.int = [102, 105, 108].map fun c : Nat => D.int (((S.filter (outP c)).length : Int) - ((S.filter (innP c)).length : Int)) := by unfold more; rw [List.map_map]; rfl
  refine' N_def _ rfl rfl (N_seq (N_to (uE S) (S_assign (d := .list ((more S).map .int)) rfl rfl ?e1) rfl ?r1))
  case e1 =>
    rw [eS]
    refine E_comp (items := [102, 105, 108].map fun c => D.str [c]) rfl rfl (I_str rfl (E_constS kk_fil) (by decide)) (F_map1 fun c _ => ?_) (show 3 ≤ 1000000 by decide)
    exact Tu_elt rfl Fi_nil (E_bin (E_callB rfl hL (V_cons rfl (E_comp (items := S.map fun k => D.str (ps k)) rfl rfl (I_list rfl (E_nameC rfl) hSD) (F_roads (p := outP c) fun k => Tu_if rfl (Fi_one (T_cmp (E_sub rfl (E_name rfl) (E_const rfl) (ps_0 k)) (E_name rfl) rfl rfl (pcs_eq _ _))) (E_nameC rfl)) (hfM _)) V_nil) (hlf _))
      (E_callB rfl hL (V_cons rfl (E_comp (items := S.map fun k => D.str (ps k)) rfl rfl (I_list rfl (E_nameC rfl) hSD) (F_roads (p := innP c) fun k => Tu_if rfl (Fi_one (T_cmp (E_sub rfl (E_name rfl) (E_const rfl) (ps_1 k)) (E_name rfl) rfl rfl (pcs_eq _ _))) (E_nameC rfl)) (hfM _)) V_nil) (hlf _)) rfl)
  case r1 =>
  cases h0 : (more S == [0, 0, 0]) with
  | true =>
    have e : due S = S.length * rings S := by unfold due; rw [if_pos h0]
    rw [e]
    exact N_ret (S_ift (T_cmp (E_name rfl) (E_list (ds := ([0, 0, 0] : List Int).map .int) (C_cons rfl (E_const rfl) (C_cons rfl (E_const rfl) (C_cons rfl (E_const rfl) C_nil))) (show 3 ≤ 1000000 by decide)) rfl rfl (pc_eqInts (more S) [0, 0, 0] rfl)) h0 (X_seq (Q_ret (S_ret rfl (E_bin (E_callB rfl hL (V_cons rfl (E_name rfl) V_nil) hls) (E_callG rfl hQ (C_cons rfl (E_nameC rfl) C_nil) (hQ' S hS5)) (pb_mulB (Nat.le_trans hS (by decide)) hrl)))))) rfl
  | false =>
    refine N_to _ (S_iff (T_cmp (E_name rfl) (E_list (ds := ([0, 0, 0] : List Int).map .int) (C_cons rfl (E_const rfl) (C_cons rfl (E_const rfl) (C_cons rfl (E_const rfl) C_nil))) (show 3 ≤ 1000000 by decide)) rfl rfl (pc_eqInts (more S) [0, 0, 0] rfl)) h0 (X_seq Q_nil)) rfl ?_
    have hsl : ((more S).mergeSort (· ≤ ·)).length = 3 := by rw [List.length_mergeSort]; rfl
    cases h1 : ((more S).mergeSort (· ≤ ·) == [-1, 0, 1]) with
    | true =>
      obtain ⟨c1, c2, i1, i2⟩ := more_has h1
      have e : due S = rings (S ++ [3 * (more S).idxOf (-1) + (more S).idxOf 1]) := by unfold due; rw [if_neg (by rw [h0]; decide), if_pos h1]
      have eR : (S.map fun k => D.str (ps k)) ++ [D.str ([L ((more S).idxOf (-1))] ++ [L ((more S).idxOf 1)])] = (S ++ [3 * (more S).idxOf (-1) + (more S).idxOf 1]).map fun k => D.str (ps k) := by
        rw [List.map_append, List.map_singleton, ps_code i2]; rfl
      have hl5 : (S ++ [3 * (more S).idxOf (-1) + (more S).idxOf 1]).length ≤ 5 := by rw [List.length_append]; exact Nat.succ_le_succ hS
      have hq := hQ' _ hl5
      unfold roadsD at hq
      rw [← eR] at hq
      rw [e]
      exact N_ret (S_ift (T_cmp (E_callB rfl hT (V_cons rfl (E_name rfl) V_nil) (bi_sorted (more S) (show 3 ≤ 60 by decide) hms)) (E_list (ds := ([-1, 0, 1] : List Int).map .int) (C_cons rfl (E_neg (E_const rfl)) (C_cons rfl (E_const rfl) (C_cons rfl (E_const rfl) C_nil))) (show 3 ≤ 1000000 by decide)) rfl rfl (pc_eqInts _ [-1, 0, 1] hsl)) h1 (X_seq (Q_ret (S_ret rfl (E_callG rfl hQ (C_cons rfl (E_bin (E_name rfl) (E_list (C_cons rfl (E_bin (E_sub rfl (E_constS kk_fil) (E_meth1 rfl (E_name rfl) (V_cons rfl (E_neg (E_const rfl)) V_nil) (me_indexL (more S) (-1) (show 3 ≤ 60 by decide) hms c1)) (lf_str rfl i1 (by decide))) (E_sub rfl (E_constS kk_fil) (E_meth1 rfl (E_name rfl) (V_cons rfl (E_const rfl) V_nil) (me_indexL (more S) 1 (show 3 ≤ 60 by decide) hms c2)) (lf_str rfl i2 (by decide))) (pb_addS [L ((more S).idxOf (-1))] [L ((more S).idxOf 1)] (show 2 ≤ 1000000 by decide))) C_nil) (show 1 ≤ 1000000 by decide)) (pb_addL _ _ (by rw [eR, List.length_map]; exact Nat.le_trans hl5 (by decide)))) C_nil) hq))))) rfl
    | false =>
      have e : due S = 0 := by unfold due; rw [if_neg (by rw [h0]; decide), if_neg (by rw [h1]; decide)]
      rw [e]
      exact N_to _ (S_iff (T_cmp (E_callB rfl hT (V_cons rfl (E_name rfl) V_nil) (bi_sorted (more S) (show 3 ≤ 60 by decide) hms)) (E_list (ds := ([-1, 0, 1] : List Int).map .int) (C_cons rfl (E_neg (E_const rfl)) (C_cons rfl (E_const rfl) (C_cons rfl (E_const rfl) C_nil))) (show 3 ≤ 1000000 by decide)) rfl rfl (pc_eqInts _ [-1, 0, 1] hsl)) h1 (X_seq Q_nil)) rfl (N_ret (S_ret rfl (E_const rfl)) rfl)
end Row3
end Mine
end
section
open PySem PySem.W PyProof.Rows PySem.Challenge
set_option Elab.async false
set_option maxRecDepth 100000
namespace Mine
namespace Row3
noncomputable def E : Nat → List Nat → Nat → Nat
  | 0, _, _ => 1
  | n + 1, S, x => (S.map fun r => if ([L (r % 3)] == [L (x / 3)]) = true then E n (S.erase r) r else 0).sum
noncomputable def tot (S : List Nat) : Nat := (S.map fun r => E (S.length - 1) (S.erase r) r).sum
theorem sum_congr {l : List Nat} {f g : Nat → Nat} (h : ∀ x ∈ l, f x = g x) : (l.map f).sum = (l.map g).sum := congrArg List.sum (List.map_congr_left h)
theorem E_perm : ∀ (n : Nat) {S T : List Nat} (x : Nat), S.Perm T → E n S x = E n T x
  | 0, _, _, _, _ => rfl
  | n + 1, S, T, x, h => by
    show (S.map _).sum = (T.map _).sum
    rw [(h.map _).sum_nat]
    exact sum_congr fun r _ => by rw [E_perm n r (h.erase r)]
theorem tot_perm {S T : List Nat} (h : S.Perm T) : tot S = tot T := by
  unfold tot
  rw [(h.map _).sum_nat, h.length_eq]
  exact sum_congr fun r _ => by rw [E_perm _ r (h.erase r)]
theorem any_perm {p : Nat → Bool} {S T : List Nat} (h : S.Perm T) : S.any p = T.any p := by
  rw [Bool.eq_iff_iff, List.any_eq_true, List.any_eq_true]
  exact ⟨fun ⟨x, h1, h2⟩ => ⟨x, h.mem_iff.mp h1, h2⟩, fun ⟨x, h1, h2⟩ => ⟨x, h.mem_iff.mpr h1, h2⟩⟩
theorem rings_perm {S T : List Nat} (h : S.Perm T) : rings S = rings T := by
  have e1 : used S = used T := by
    unfold used
    congr 1
    funext c
    exact any_perm h
  have e2 : turn S = turn T := by
    funext acc c
    unfold turn
    rw [(h.filter _).length_eq]
  have e3 : cn S = cn T := by
    funext y
    unfold cn
    exact (h.map _).count_eq y
  have e4 : rgs S = rgs T := by unfold rgs; rw [e1, e2]
  unfold rings
  rw [e1, e3, e4]
noncomputable def dueC (S : List Nat) : Nat := if (more S == [0, 0, 0]) = true then S.length * rings S else if ((more S).contains (-1) && (more S).contains 0 && (more S).contains 1) = true then rings (S ++ [3 * (more S).idxOf (-1) + (more S).idxOf 1]) else 0
theorem three_sorted (x y z : Int) : ([x, y, z].mergeSort (· ≤ ·) == [-1, 0, 1]) = ([x, y, z].contains (-1) && [x, y, z].contains 0 && [x, y, z].contains 1) := by
  have hp := List.mergeSort_perm [x, y, z] (fun a b : Int => decide (a ≤ b))
  rw [Bool.eq_iff_iff, beq_iff_eq, Bool.and_eq_true, Bool.and_eq_true, List.contains_iff_mem, List.contains_iff_mem, List.contains_iff_mem]
  constructor
  · intro h
    rw [h] at hp
    exact ⟨⟨hp.mem_iff.mp (by decide), hp.mem_iff.mp (by decide)⟩, hp.mem_iff.mp (by decide)⟩
  · rintro ⟨⟨h1, h2⟩, h3⟩
    have hs := List.pairwise_mergeSort (le := fun (a b : Int) => decide (a ≤ b)) (by intro a b c; simp only [decide_eq_true_eq]; omega) (by intro a b; simp only [Bool.or_eq_true, decide_eq_true_eq]; omega) [x, y, z]
    have hm1 := hp.mem_iff.mpr h1
    have hm2 := hp.mem_iff.mpr h2
    have hm3 := hp.mem_iff.mpr h3
    have hl := hp.length_eq
    generalize [x, y, z].mergeSort (fun a b => decide (a ≤ b)) = l at hs hm1 hm2 hm3 hl
    match l, hl with
    | [a, b, c], _ =>
      simp only [List.mem_cons, List.not_mem_nil, or_false] at hm1 hm2 hm3
      simp only [List.pairwise_cons, List.mem_cons, List.not_mem_nil, or_false, decide_eq_true_eq, forall_eq_or_imp, forall_eq] at hs
      obtain ⟨⟨a1, a2⟩, a3, _⟩ := hs
      have : a = -1 ∧ b = 0 ∧ c = 1 := by omega
      obtain ⟨rfl, rfl, rfl⟩ := this
      rfl
theorem due_is (S : List Nat) : due S = dueC S := by
  unfold due dueC
  have := three_sorted (((S.filter (outP 102)).length : Int) - ((S.filter (innP 102)).length : Int)) (((S.filter (outP 105)).length : Int) - ((S.filter (innP 105)).length : Int)) (((S.filter (outP 108)).length : Int) - ((S.filter (innP 108)).length : Int))
  rw [show ((more S).mergeSort (· ≤ ·) == [-1, 0, 1]) = ((more S).contains (-1) && (more S).contains 0 && (more S).contains 1) from this]
theorem dueC_perm {S T : List Nat} (h : S.Perm T) : dueC S = dueC T := by
  have e : more S = more T := by
    unfold more
    refine List.map_congr_left fun c _ => ?_
    rw [(h.filter _).length_eq, (h.filter (innP c)).length_eq]
  unfold dueC
  rw [e, rings_perm h, h.length_eq, rings_perm (h.append_right _)]
noncomputable def good (S : List Nat) : Bool := S.isEmpty || tot S == dueC S
noncomputable def chk : Nat → Nat → List Nat → Bool
  | 0, _, S => good S
  | n + 1, k, S => good S && (List.range k).all fun i => chk n (i + 1) (i :: S)
theorem good_perm {S T : List Nat} (h : S.Perm T) : good S = good T := by
  unfold good
  rw [tot_perm h, dueC_perm h]
  cases S with
  | nil => rw [h.nil_eq]
  | cons a S =>
    cases T with
    | nil => exact absurd h.length_eq (by simp)
    | cons b T => rfl
theorem chk_sound : ∀ (n k : Nat) (S U : List Nat), chk n k S = true → U.length ≤ n → (∀ x ∈ U, x < k) → U.Pairwise (fun a b => b ≤ a) → good (U ++ S) = true
  | 0, _, S, [], h, _, _, _ => h
  | n + 1, k, S, [], h, _, _, _ => (Bool.and_eq_true_iff.mp h).1
  | n + 1, k, S, i :: U, h, hl, hk, hp => by
    have h1 := List.all_eq_true.mp (Bool.and_eq_true_iff.mp h).2 i (List.mem_range.mpr (hk i List.mem_cons_self))
    obtain ⟨p1, p2⟩ := List.pairwise_cons.mp hp
    have := chk_sound n (i + 1) (i :: S) U h1 (Nat.le_of_succ_le_succ hl) (fun x hx => Nat.lt_succ_of_le (p1 x hx)) p2
    rw [← this]
    exact good_perm (List.perm_middle.symm)
end Row3
end Mine
end
section
open PySem PySem.W PyProof.Rows PySem.Challenge
set_option Elab.async false
set_option maxRecDepth 100000
namespace Mine
namespace Row3
theorem g0 : chk 3 1 [0] = true := by decide +kernel
theorem g1 : chk 3 2 [1] = true := by decide +kernel
theorem g2 : chk 3 3 [2] = true := by decide +kernel
theorem g3 : chk 3 4 [3] = true := by decide +kernel
theorem g4 : chk 3 5 [4] = true := by decide +kernel
theorem g5 : chk 3 6 [5] = true := by decide +kernel
theorem g6 : chk 3 7 [6] = true := by decide +kernel
theorem g7 : chk 3 8 [7] = true := by decide +kernel
theorem g8 : chk 3 9 [8] = true := by decide +kernel
theorem g9 : ∀ i, i < 9 → chk 3 (i + 1) [i] = true
  | 0, _ => g0
  | 1, _ => g1
  | 2, _ => g2
  | 3, _ => g3
  | 4, _ => g4
  | 5, _ => g5
  | 6, _ => g6
  | 7, _ => g7
  | 8, _ => g8
  | n + 9, h => absurd h (Nat.not_lt.mpr (Nat.le_add_left 9 n))
theorem all_good : chk 4 9 [] = true := by
  show (good [] && (List.range 9).all fun i => chk 3 (i + 1) [i]) = true
  rw [List.all_eq_true.mpr fun i hi => g9 i (List.mem_range.mp hi)]
  rfl
theorem tot_due {S : List Nat} (hl : S.length ≤ 4) (h9 : ∀ x ∈ S, x < 9) (hne : S ≠ []) : tot S = due S := by
  have hp := List.mergeSort_perm S (fun a b => decide (b ≤ a))
  have hs := List.pairwise_mergeSort (le := fun (a b : Nat) => decide (b ≤ a)) (by intro a b c; simp only [decide_eq_true_eq]; omega) (by intro a b; simp only [Bool.or_eq_true, decide_eq_true_eq]; omega) S
  have hg := chk_sound 4 9 [] _ all_good (by rw [hp.length_eq]; exact hl) (fun x hx => h9 x (hp.mem_iff.mp hx)) (hs.imp fun h => of_decide_eq_true h)
  rw [List.append_nil, good_perm hp] at hg
  unfold good at hg
  rw [due_is]
  cases S with
  | nil => exact absurd rfl hne
  | cons a S => exact eq_of_beq hg
noncomputable def bit (ch k : Nat) : Bool := ch / 2 ^ k % 2 == 1
noncomputable def sub (R : List Nat) (ch : Nat) : List Nat := ((List.range R.length).filter (bit ch)).map fun k => R.getD k 0
theorem bit_not (ch k : Nat) : (ch / 2 ^ k % 2 == 0) = !bit ch k := by
  unfold bit
  rcases Nat.mod_two_eq_zero_or_one (ch / 2 ^ k) with h | h <;> rw [h] <;> rfl
theorem bit_sub : ∀ ch, ch < 16 → ∀ j, j < 4 → bit ch j = true → ∀ k, k < 4 → bit (ch - 2 ^ j) k = (!(k == j) && bit ch k) := by decide
theorem bit_zero (k : Nat) : bit 0 k = false := by unfold bit; rw [Nat.zero_div]; rfl
theorem filter_split {p q : Nat → Bool} {j : Nat} : ∀ l : List Nat, l.Nodup → j ∈ l → p j = true → (∀ k ∈ l, q k = (!(k == j) && p k)) → (l.filter p).Perm (j :: l.filter q)
  | [], _, h, _, _ => absurd h (by simp)
  | a :: l, hn, hm, hp, hq => by
    obtain ⟨n1, n2⟩ := List.nodup_cons.mp hn
    have hqa := hq a List.mem_cons_self
    by_cases e : a = j
    · subst e
      have hqf : q a = false := by rw [hqa, beq_self_eq_true]; rfl
      rw [List.filter_cons, List.filter_cons, hp, hqf, if_pos rfl, if_neg (by decide)]
      refine .cons _ ?_
      rw [List.filter_congr fun k hk => ?_]
      rw [hq k (List.mem_cons_of_mem _ hk), show (k == a) = false from by rw [beq_eq_false_iff_ne]; rintro rfl; exact n1 hk]; rfl
    · have hm' : j ∈ l := (List.mem_cons.mp hm).elim (fun h => absurd h.symm e) id
      have ih := filter_split l n2 hm' hp fun k hk => hq k (List.mem_cons_of_mem _ hk)
      have hqp : q a = p a := by rw [hqa, show (a == j) = false from by rw [beq_eq_false_iff_ne]; exact e]; rfl
      rw [List.filter_cons, List.filter_cons, hqp]
      cases p a with
      | true => exact (List.Perm.cons _ ih).trans (.swap _ _ _)
      | false => exact ih
theorem sub_erase {R : List Nat} (hR : R.length ≤ 4) {ch j : Nat} (hch : ch < 16) (hj : j < R.length) (hb : bit ch j = true) : (sub R (ch - 2 ^ j)).Perm ((sub R ch).erase (R.getD j 0)) := by
  have h := filter_split (q := bit (ch - 2 ^ j)) (List.range R.length) List.nodup_range (List.mem_range.mpr hj) hb fun k hk => bit_sub ch hch j (Nat.lt_of_lt_of_le hj hR) hb k (Nat.lt_of_lt_of_le (List.mem_range.mp hk) hR)
  have h2 := (h.map fun k => R.getD k 0).erase (R.getD j 0)
  rw [List.map_cons, List.erase_cons_head] at h2
  exact h2.symm
theorem bit_some : ∀ m, m < 5 → ∀ x, x < 2 ^ m → x ≠ 0 → ∃ k, k < m ∧ bit x k = true := by decide
theorem sub_ne {R : List Nat} (hR : R.length ≤ 4) {ch : Nat} (h0 : ch ≠ 0) (hlt : ch < 2 ^ R.length) : sub R ch ≠ [] := by
  intro h
  have hl := congrArg List.length h
  unfold sub at hl
  rw [List.length_map] at hl
  obtain ⟨k, hk1, hk2⟩ := bit_some _ (Nat.lt_succ_of_le hR) _ hlt h0
  have := List.length_pos_of_mem (List.mem_filter.mpr ⟨List.mem_range.mpr hk1, hk2⟩)
  rw [hl] at this
  exact absurd this (by decide)
theorem sum_swap (p q : Nat → Bool) (f : Nat → Nat) : ∀ l : List Nat, ((l.filter p).map fun i => if q i = true then f i else 0).sum = ((l.filter q).map fun i => if p i = true then f i else 0).sum
  | [] => rfl
  | a :: l => by
    have ih := sum_swap p q f l
    rw [List.filter_cons, List.filter_cons]
    cases hp : p a <;> cases hq : q a
    · exact ih
    · rw [if_neg (by decide), if_pos rfl, List.map_cons, List.sum_cons, hp, if_neg (by decide), Nat.zero_add]; exact ih
    · rw [if_pos rfl, if_neg (by decide), List.map_cons, List.sum_cons, hq, if_neg (by decide), Nat.zero_add]; exact ih
    · rw [if_pos rfl, if_pos rfl, List.map_cons, List.map_cons, List.sum_cons, List.sum_cons, hp, hq, ih]
theorem sum_all (q : Nat → Bool) (f : Nat → Nat) (l : List Nat) : (l.map fun i => if q i = true then f i else 0).sum = ((l.filter q).map f).sum := by
  have := sum_swap (fun _ => true) q f l
  rw [List.filter_eq_self.mpr fun _ _ => rfl] at this
  rw [this]
  exact sum_congr fun _ _ => rfl
noncomputable abbrev EE (S : List Nat) (x : Nat) : Nat := E S.length S x
theorem EE_perm {S T : List Nat} (h : S.Perm T) (x : Nat) : EE S x = EE T x := by
  unfold EE
  rw [h.length_eq]
  exact E_perm _ x h
theorem EE_step {S : List Nat} (hne : S ≠ []) (x : Nat) : EE S x = (S.map fun r => if ([L (r % 3)] == [L (x / 3)]) = true then EE (S.erase r) r else 0).sum := by
  obtain ⟨n, hn⟩ : ∃ n, S.length = n + 1 := by
    cases S with
    | nil => exact absurd rfl hne
    | cons a S => exact ⟨S.length, rfl⟩
  show E S.length S x = _
  rw [hn]
  show (S.map _).sum = _
  refine sum_congr fun r hr => ?_
  show _ = if _ then E (S.erase r).length (S.erase r) r else 0
  rw [List.length_erase_of_mem hr, hn]
  rfl
theorem tot_is (S : List Nat) : tot S = (S.map fun r => EE (S.erase r) r).sum := by
  unfold tot
  refine sum_congr fun r hr => ?_
  show _ = E (S.erase r).length (S.erase r) r
  rw [List.length_erase_of_mem hr]
theorem way_is {R : List Nat} (hR : R.length ≤ 4) : ∀ (n ch : Nat), ch ≤ n → 1 ≤ ch → ch < 2 ^ R.length → ∀ j, j < R.length → cW R (CL R (ch - 1)) ch j = if bit ch j = true then EE (sub R (ch - 2 ^ j)) (R.getD j 0) else 0
  | 0, ch, h0, h1, _, _, _ => absurd (Nat.le_trans h1 h0) (by decide)
  | n + 1, ch, hn, h1, hlt, j, hj => by
    have h16 : ch < 16 := Nat.lt_of_lt_of_le hlt (Nat.pow_le_pow_right (n := 2) (by decide) hR)
    unfold cW
    rw [bit_not]
    cases hb : bit ch j with
    | false => rfl
    | true =>
      rw [if_neg (by decide), if_pos rfl]
      have hle : 2 ^ j ≤ ch := bit_le (by rw [bit_not, hb]; rfl)
      cases hz : (ch - 2 ^ j == 0) with
      | true =>
        rw [if_pos rfl, eq_of_beq hz]
        have : sub R 0 = [] := by
          unfold sub
          rw [List.filter_eq_nil_iff.mpr (fun k _ => by rw [bit_zero]; decide)]; rfl
        rw [this]; rfl
      | false =>
        rw [if_neg (by decide)]
        have hne : ch - 2 ^ j ≠ 0 := by simpa using hz
        obtain ⟨r, hr⟩ : ∃ r, ch - 2 ^ j = r + 1 := Nat.exists_eq_succ_of_ne_zero hne
        have h2 := Nat.two_pow_pos j
        have hrc : r + 1 < ch := by omega
        have hget : (CL R (ch - 1)).getD (ch - 2 ^ j) [] = way R (CL R r) (r + 1) := by rw [hr]; exact CL_get R _ r (by omega)
        rw [hget]
        have ih := way_is hR n (r + 1) (by omega) (Nat.succ_le_succ (Nat.zero_le _)) (Nat.lt_trans hrc hlt)
        have e1 : ((List.range R.length).filter (hits R j)).map (fun i => (way R (CL R r) (r + 1)).getD i 0) = ((List.range R.length).filter (hits R j)).map fun i => if bit (r + 1) i = true then EE (sub R (r + 1 - 2 ^ i)) (R.getD i 0) else 0 := by
          refine List.map_congr_left fun i hi => ?_
          have hi' := List.mem_range.mp (List.mem_filter.mp hi).1
          rw [← ih i hi']
          unfold way
          rw [List.getD_eq_getElem?_getD, List.getElem?_map, List.getElem?_range hi']
          rfl
        rw [e1, sum_swap, hr]
        rw [EE_step (sub_ne hR (Nat.succ_ne_zero r) (Nat.lt_trans hrc hlt))]
        conv => rhs; unfold sub
        rw [List.map_map]
        refine sum_congr fun i hi => ?_
        obtain ⟨hi1, hi2⟩ := List.mem_filter.mp hi
        show _ = if hits R j i = true then EE ((sub R (r + 1)).erase (R.getD i 0)) (R.getD i 0) else 0
        rw [EE_perm (sub_erase hR (Nat.lt_trans hrc h16) (List.mem_range.mp hi1) hi2)]
theorem CL_drop (R : List Nat) : ∀ n, (CL R n).drop 1 = (List.range' 1 n).map fun ch => way R (CL R (ch - 1)) ch
  | 0 => rfl
  | n + 1 => by
    show (CL R n ++ [_]).drop 1 = _
    rw [List.drop_append_of_le_length (by rw [CL_len]; exact Nat.succ_le_succ (Nat.zero_le _)), CL_drop R n, List.range'_1_concat, List.map_append, List.map_singleton]
    show _ = _ ++ [way R (CL R (1 + n - 1)) (1 + n)]
    rw [Nat.add_comm 1 n, Nat.add_sub_cancel]
theorem sub_len (R : List Nat) (ch : Nat) : (sub R ch).length ≤ R.length := by
  unfold sub
  rw [List.length_map]
  exact Nat.le_trans (List.length_filter_le _ _) (by rw [List.length_range]; exact Nat.le_refl _)
theorem orders_due {R : List Nat} (hR : R.length ≤ 4) (h9 : ∀ x ∈ R, x < 9) : orders R = (List.range' 1 (2 ^ R.length - 1)).map fun ch => due (sub R ch) := by
  unfold orders
  rw [CL_drop, List.map_map]
  refine List.map_congr_left fun ch hch => ?_
  obtain ⟨c1, c2⟩ := List.mem_range'_1.mp hch
  have hlt : ch < 2 ^ R.length := by have := Nat.two_pow_pos R.length; omega
  have h16 : ch < 16 := Nat.lt_of_lt_of_le hlt (Nat.pow_le_pow_right (n := 2) (by decide) hR)
  have hne : sub R ch ≠ [] := sub_ne hR (Nat.ne_of_gt c1) hlt
  have hs9 : ∀ x ∈ sub R ch, x < 9 := by
    intro x hx
    obtain ⟨k, hk, rfl⟩ := List.mem_map.mp hx
    have hk' := List.mem_range.mp (List.mem_filter.mp hk).1
    rw [List.getD_eq_getElem?_getD, List.getElem?_eq_getElem hk']
    exact h9 _ (List.getElem_mem hk')
  rw [← tot_due (Nat.le_trans (sub_len R ch) hR) hs9 hne, tot_is]
  show (way R (CL R (ch - 1)) ch).sum = _
  unfold way
  have e1 : (List.range R.length).map (cW R (CL R (ch - 1)) ch) = (List.range R.length).map fun j => if bit ch j = true then EE (sub R (ch - 2 ^ j)) (R.getD j 0) else 0 :=
    List.map_congr_left fun j hj => way_is hR ch ch (Nat.le_refl _) c1 hlt j (List.mem_range.mp hj)
  rw [e1, sum_all]
  conv => rhs; unfold sub
  rw [List.map_map]
  refine sum_congr fun i hi => ?_
  obtain ⟨hi1, hi2⟩ := List.mem_filter.mp hi
  show _ = EE ((sub R ch).erase (R.getD i 0)) (R.getD i 0)
  rw [EE_perm (sub_erase hR h16 (List.mem_range.mp hi1) hi2)]
end Row3
end Mine
end
section
open PySem PySem.W PyProof.Rows PySem.Challenge
set_option Elab.async false
set_option maxRecDepth 100000
namespace Mine
namespace Row3
section
variable (U : Nat → List Nat)
noncomputable def rowT (n : Nat) : List Nat := U n ++ (ends n).getD (n / 9 % 4) []
noncomputable def txt (ns : List Nat) : List Nat := (ns.map (rowT U)).flatten
noncomputable def linesA (ns : List Nat) : List (List Nat) := ns.flatMap (fun n => U n :: endX n) ++ [[]]
variable {U} (hU : ∀ n, Body n (U n))
include hU
theorem rowT_len (n : Nat) : (rowT U n).length ≤ 9 := by
  unfold rowT
  rw [List.length_append]
  exact Nat.add_le_add (hU n).len (end_row n).2
theorem txt_len : ∀ ns : List Nat, (txt U ns).length ≤ 9 * ns.length
  | [] => Nat.zero_le _
  | n :: ns => by
    have ih := txt_len ns
    show (rowT U n ++ txt U ns).length ≤ _
    rw [List.length_append, List.length_cons, Nat.mul_succ, Nat.add_comm]
    exact Nat.add_le_add ih (rowT_len hU n)
theorem txt_eols : ∀ ns : List Nat, (∀ r, txt U ns ≠ 10 :: r) ∧ eols (txt U ns) = inter [13, 10] (linesA U ns)
  | [] => ⟨(by intro r h; cases h), eols_nil⟩
  | n :: ns => by
    obtain ⟨h1, h2⟩ := txt_eols ns
    have hb := hU n
    have e : txt U (n :: ns) = U n ++ (ends n).getD (n / 9 % 4) [] ++ txt U ns := rfl
    rw [e]
    constructor
    · intro r h
      cases hu : U n with
      | nil => exact hb.ne hu
      | cons c u =>
        rw [hu] at h
        have := hb.plain c (by rw [hu]; exact List.mem_cons_self)
        exact this.1 (List.cons.inj h).1
    · have := eols_row hb.plain (end_row n).1 h1 (by unfold linesA; simp) h2
      rw [this]
      unfold linesA
      rw [List.flatMap_cons, List.append_assoc]
end
theorem T_small : (T.all fun p => decide (p.2.cps.toList.length ≤ 10)) = true := by decide +kernel
theorem rd_len (c : Nat) : (rd T c).length ≤ 10 := by
  unfold rd rdO
  split
  · exact show 1 ≤ 10 by decide
  · split
    · exact Nat.zero_le _
    · unfold b3Look
      split
      · rename_i q hq
        exact of_decide_eq_true (List.all_eq_true.mp T_small q (List.mem_of_find?_eq_some hq))
      · split
        · exact show 1 ≤ 10 by decide
        · exact Nat.zero_le _
theorem noC4 {l u : List Nat} (h : Reads l u) : l.any c4 = false := by
  rw [List.any_eq_false]
  intro c hc
  rw [(h.1 c hc).1]
  decide
theorem lineV_reads {l u : List Nat} (h : Reads l u) : lineV l = u := by
  unfold lineV
  rw [noC4 h, if_neg (by decide), h.2]
theorem lineOk_reads {l u : List Nat} (h : Reads l u) (hp : Plain l) (hl : l.length ≤ 100) : LineOk l :=
  ⟨fun h => (hp 13 h).2 rfl, hl, Nat.le_trans (flat_len rd_len l) (Nat.mul_le_mul_left 10 hl), fun _ c hc => (h.1 c hc).2⟩
noncomputable def lv (n : Nat) : List Nat := if (n / 36 % 6 == 0) = true then [63] else ps (pr n)
noncomputable def vals (n : Nat) : List (List Nat) := lv n :: (if (n / 9 % 4 == 3) = true then [[], []] else [])
theorem rdX (n : Nat) : Reads [nothing (n / 216)] [] := .one (rdnothing _)
theorem endX_ok (n : Nat) : (∀ l ∈ endX n, LineOk l) ∧ (endX n).map lineV = if (n / 9 % 4 == 3) = true then [[], []] else [] := by
  unfold endX
  cases n / 9 % 4 == 3 with
  | false => exact ⟨by simp, rfl⟩
  | true =>
    rw [if_pos rfl, if_pos rfl]
    constructor
    · intro l hl
      rcases List.mem_cons.mp hl with rfl | hl
      · exact lineOk_reads (rdX n) (plain_one (nothing_plain _)) (show 1 ≤ 100 by decide)
      · rw [List.mem_singleton.mp hl]
        exact lineOk_reads .nil (by intro c h; cases h) (Nat.zero_le _)
    · rw [List.map_cons, List.map_singleton, lineV_reads (rdX n), lineV_reads .nil]
section
variable {U : Nat → List Nat} (hU : ∀ n, Body n (U n))
include hU
theorem U_ok (n : Nat) : LineOk (U n) ∧ lineV (U n) = lv n := by
  have hb := hU n
  unfold lv
  by_cases k0 : n / 36 % 6 = 0
  · rw [if_pos (beq_iff_eq.mpr k0)]
    have ha := hb.bar k0
    refine ⟨⟨fun h => (hb.plain 13 h).2 rfl, Nat.le_trans hb.len (by decide), Nat.le_trans (flat_len rd_len _) (Nat.le_trans (Nat.mul_le_mul_left 10 hb.len) (by decide)), fun h => ?_⟩, ?_⟩
    · rw [ha] at h; cases h
    · unfold lineV
      rw [if_pos ha]
  · rw [if_neg (by rw [beq_iff_eq]; exact k0), ps_pr]
    have hr := hb.reads k0
    exact ⟨lineOk_reads hr hb.plain (Nat.le_trans hb.len (by decide)), lineV_reads hr⟩
theorem lines_all (ns : List Nat) : (∀ l ∈ linesA U ns, LineOk l) ∧ (linesA U ns).map lineV = ns.flatMap vals ++ [[]] := by
  constructor
  · intro l hl
    rcases List.mem_append.mp hl with hl | hl
    · obtain ⟨n, _, hl⟩ := List.mem_flatMap.mp hl
      rcases List.mem_cons.mp hl with rfl | hl
      · exact (U_ok hU n).1
      · exact (endX_ok n).1 l hl
    · rw [List.mem_singleton.mp hl]
      exact lineOk_reads .nil (by intro c h; cases h) (Nat.zero_le _)
  · unfold linesA
    rw [List.map_append, List.map_flatMap, List.map_singleton, lineV_reads .nil]
    congr 1
    refine congrArg (fun f => ns.flatMap f) (funext fun n => ?_)
    rw [List.map_cons, (U_ok hU n).2, (endX_ok n).2]
    rfl
end
noncomputable def dots (v : List Nat) : List Nat := if (v.length == 2) = true then [46, 46] else v
theorem vals_dots (n : Nat) : (vals n).map dots = sh n := by
  have e1 : dots (lv n) = if (n / 36 % 6 == 0) = true then [63] else [46, 46] := by
    unfold lv
    cases n / 36 % 6 == 0 <;> rfl
  unfold vals sh
  rw [List.map_cons, e1]
  cases n / 9 % 4 == 3 <;> rfl
theorem shape_is (ns : List Nat) : (ns.flatMap vals ++ [[]]).map dots = shape ns := by
  unfold shape
  rw [List.map_append, List.map_flatMap]
  congr 1
  exact congrArg (fun f => ns.flatMap f) (funext vals_dots)
noncomputable def isRoad (n : Nat) : Bool := !(n / 36 % 6 == 0)
theorem pairs_is : ∀ ns : List Nat, (ns.flatMap vals ++ [[]]).filter (fun v => v.length == 2) = (ns.filter isRoad).map fun n => ps (pr n)
  | [] => rfl
  | n :: ns => by
    have ih := pairs_is ns
    rw [List.flatMap_cons, List.append_assoc, List.filter_append, ih]
    have e : (vals n).filter (fun v => v.length == 2) = if isRoad n = true then [ps (pr n)] else [] := by
      unfold vals lv isRoad
      cases n / 36 % 6 == 0 <;> cases n / 9 % 4 == 3 <;> rfl
    rw [e, List.filter_cons]
    cases isRoad n <;> rfl
end Row3
end Mine
end
section
open PySem PySem.W PyProof.Rows PySem.Challenge
set_option Elab.async false
set_option maxRecDepth 100000
namespace Mine
namespace Row3
structure Kit (G : Tab) (U : Nat → List Nat) : Prop where
  num : ∃ F, G.lookup (Str.ofString "_law_number") = some F ∧ ∀ (zs : List Int), zs.length ≤ 63 → ∀ (p s : Nat), s < 1000000 → ∃ n : Nat, n < 1000000 ∧ F [.list (zs.map .int), .int (p : Int), .int (s : Int)] = some (.int (n : Int))
  pair : ∃ F, G.lookup (Str.ofString "_law_pair") = some F ∧ ∀ n : Nat, F [.int (n : Int)] = some (.str (ps (pr n)))
  row : ∃ F, G.lookup (Str.ofString "_law_row") = some F ∧ ∀ n : Nat, F [.int (n : Int)] = some (.str (rowT U n))
  shape : ∃ F, G.lookup (Str.ofString "_law_shape") = some F ∧ ∀ ns : List Nat, ns ≠ [] → ns.length ≤ 10 → F [intsD ns] = some (.list ((shape ns).map .str))
  lines : ∃ F, G.lookup (Str.ofString "_law_lines") = some F ∧ ∀ (x : List Nat) (A : List (List Nat)), x.length ≤ 2000 → A ≠ [] → A.length ≤ 100 → eols x = inter [13, 10] A → (∀ l ∈ A, LineOk l) → F [.str x] = some (.list ((A.map lineV).map .str))
  orders : ∃ F, G.lookup (Str.ofString "_law_orders") = some F ∧ ∀ R : List Nat, R.length ≤ 4 → F [roadsD R] = some (intsD (orders R))
  due : ∃ F, G.lookup (Str.ofString "_law_due") = some F ∧ ∀ S : List Nat, S.length ≤ 4 → F [roadsD S] = some (.int ((due S : Nat) : Int))
  len : G.lookup (Str.ofString "len") = none
noncomputable def starts : List Nat := [21657, 10978, 8645, 1631, 7308]
theorem starts_lt : ∀ k, k < 5 → starts.getD k 0 < 1000000 := by decide
noncomputable def lE (zs : List Int) (ns : List Nat) (e : PEnv) : PEnv := [nm "script" (.list (zs.map .int)), nm "numbers" (intsD ns)] ++ e
theorem ne_strs (l : List (List Nat)) : Deep (.s (.s (.s (.s .z)))) (.list (l.map .str)) := .list fun d hd => by
  obtain ⟨x, _, rfl⟩ := List.mem_map.mp hd
  exact .str
theorem deep_ints (l : List Nat) : Deep (.s (.s (.s (.s .z)))) (intsD l) := .list fun d hd => by
  obtain ⟨x, _, rfl⟩ := List.mem_map.mp hd
  exact .int
theorem pc_len2 (v : List Nat) : pcmp .Eq (.int ((v.length : Nat) : Int)) (.int 2) = some (v.length == 2) := pc_eq _ 2
theorem law_ok {G : Tab} {U : Nat → List Nat} (hU : ∀ n, Body n (U n)) (K : Kit G U) (zs : List Int) (hz : zs.length ≤ 63) : fn G 14 [.list (zs.map .int)] = some (.bool true) := by
  obtain ⟨N0, hN, hN'⟩ := K.num
  obtain ⟨P0, hP, hP'⟩ := K.pair
  obtain ⟨R0, hR, hR'⟩ := K.row
  obtain ⟨S0, hS, hS'⟩ := K.shape
  obtain ⟨L0, hl, hl'⟩ := K.lines
  obtain ⟨O0, hO, hO'⟩ := K.orders
  obtain ⟨D0, hD, hD'⟩ := K.due
  have hL := K.len
  obtain ⟨f, hf⟩ : ∃ f : Nat → Nat, ∀ k : Nat, k < 5 → N0 [.list (zs.map .int), .int (k : Int), .int ((starts.getD k 0 : Nat) : Int)] = some (.int (f k : Int)) := by
    have h : ∀ k : Nat, ∃ n : Nat, k < 5 → N0 [.list (zs.map .int), .int (k : Int), .int ((starts.getD k 0 : Nat) : Int)] = some (.int (n : Int)) := by
      intro k
      by_cases hk : k < 5
      · obtain ⟨n, _, e⟩ := hN' zs hz k _ (starts_lt k hk)
        exact ⟨n, fun _ => e⟩
      · exact ⟨0, fun h => absurd h hk⟩
    exact ⟨fun k => Classical.choose (h k), fun k => Classical.choose_spec (h k)⟩
  generalize hns : (List.range 5).map f = ns
  have hn5 : ns.length = 5 := by rw [← hns]; rfl
  have hnM : ns.length ≤ 1000000 := by rw [hn5]; decide
  have hnD : (ns.map fun n : Nat => D.int (n : Int)).length ≤ 1000000 := by rw [List.length_map]; exact hnM
  have hn0 : ns ≠ [] := by intro h; rw [h] at hn5; cases hn5
  have htl : (txt U ns).length ≤ 45 := by have := txt_len hU ns; rw [hn5] at this; exact this
  obtain ⟨ha1, ha2⟩ := lines_all hU ns
  obtain ⟨_, hte⟩ := txt_eols hU ns
  have hAl : (linesA U ns).length ≤ 16 := by
    unfold linesA
    rw [List.length_append]
    have : (ns.flatMap fun n => U n :: endX n).length ≤ 3 * ns.length := flat_len (fun n => by
      show (endX n).length + 1 ≤ 3
      unfold endX
      split
      · exact show 3 ≤ 3 by decide
      · exact show 1 ≤ 3 by decide) ns
    rw [hn5] at this
    exact Nat.succ_le_succ this
  have hlin := hl' (txt U ns) (linesA U ns) (Nat.le_trans htl (by decide)) (by unfold linesA; simp) (Nat.le_trans hAl (by decide)) hte ha1
  have hVl : (ns.flatMap vals ++ [[]]).length ≤ 16 := by rw [← ha2, List.length_map]; exact hAl
  rw [ha2] at hlin
  have hsh := shape_is ns
  have hpa := pairs_is ns
  have hvl : ∀ v ∈ ns.flatMap vals ++ [[]], v.length ≤ 1000000 := by
    intro v hv
    rw [← ha2] at hv
    obtain ⟨l, hlm, rfl⟩ := List.mem_map.mp hv
    unfold lineV
    split
    · exact show 1 ≤ 1000000 by decide
    · exact Nat.le_trans (ha1 l hlm).vlen (by decide)
  generalize ns.flatMap vals ++ [[]] = V at hlin hVl hsh hpa hvl
  have hVD : (V.map D.str).length ≤ 1000000 := by rw [List.length_map]; exact Nat.le_trans hVl (by decide)
  have hkl : (ns.filter isRoad).length ≤ 5 := by rw [← hn5]; exact List.length_filter_le _ _
  generalize hRR : ((ns.filter isRoad).map pr).take 4 = R
  have hR4 : R.length ≤ 4 := by rw [← hRR]; exact List.length_take_le _ _
  have hRM : R.length ≤ 1000000 := Nat.le_trans hR4 (by decide)
  have hR9 : ∀ x ∈ R, x < 9 := by
    intro x hx
    rw [← hRR] at hx
    obtain ⟨n, _, rfl⟩ := List.mem_map.mp (List.mem_of_mem_take hx)
    exact pr_lt n
  have hroads : ((ns.filter isRoad).map fun n => D.str (ps (pr n))).take 4 = R.map fun k => D.str (ps k) := by rw [← hRR, List.map_take, List.map_map]; rfl
  have hpairs : ((V.filter fun v => v.length == 2).map D.str).take 4 = R.map fun k => D.str (ps k) := by rw [hpa, List.map_map, ← hroads]; rfl
  have h16 : 2 ^ R.length ≤ 16 := Nat.pow_le_pow_right (n := 2) (by decide) hR4
  have hbl : ∀ {ρ : PEnv} {n : Fu} {sc : List (Str × NameKind)} {p q r : Pos}, sc.lookup (Str.ofString "len") = some .globalImplicit → ρ.lookup (Str.ofString "roads") = some (false, roadsD R) → pe G (.s (.s n)) sc (.Call (.Name (Str.ofString "len") p) [.Name (Str.ofString "roads") q] [] r) ρ = some (true, .int ((R.length : Nat) : Int)) := by
    intro ρ n sc p q r h1 h2
    have := bi_lenL (R.map fun k => D.str (ps k)) (by rw [List.length_map]; exact hRM)
    rw [List.length_map] at this
    exact E_callB h1 hL (V_cons rfl (E_name h2) V_nil) this
  refine' N_def [nm "script" (.list (zs.map .int))] rfl rfl (N_seq (N_to (lE zs ns []) (S_assign (d := intsD ns) rfl rfl ?e1) rfl ?r1))
  case e1 =>
    have e : intsD ns = .list ((List.range 5).map fun k => D.int (f k : Int)) := by rw [← hns]; unfold intsD; rw [List.map_map]; rfl
    rw [e]
    refine E_comp rfl rfl (I_rangeN (n := 5) rfl (V_cons rfl (E_const rfl) V_nil) (by decide)) (F_map1 (k := fun k => D.int (f k : Int)) fun k hk => ?_) (show 5 ≤ 1000000 by decide)
    have hk5 := List.mem_range.mp hk
    exact Tu_elt rfl Fi_nil (E_callG rfl hN (C_cons rfl (E_nameC rfl) (C_cons rfl (E_nameC rfl) (C_cons rfl (E_sub rfl (E_list (ds := starts.map fun n : Nat => D.int (n : Int)) (C_cons rfl (E_const rfl) (C_cons rfl (E_const rfl) (C_cons rfl (E_const rfl) (C_cons rfl (E_const rfl) (C_cons rfl (E_const rfl) C_nil))))) (show 5 ≤ 1000000 by decide)) (E_name rfl) (pi_mapL (fun n : Nat => D.int (n : Int)) starts k 0 hk5 (show 5 ≤ 1000000 by decide))) C_nil))) (hf k hk5))
  case r1 =>
  refine' N_to (lE zs ns [nm "lines" (.list (V.map .str))]) (S_assign rfl rfl (E_callG rfl hl (C_cons rfl (E_meth1 rfl (E_constS PySem.W.KWk.none_list) (V_cons rfl (E_comp (items := ns.map fun n : Nat => D.int (n : Int)) rfl rfl (I_list rfl (E_nameC rfl) hnD) (F_map1 (k := fun n => D.str (rowT U n)) fun n _ => Tu_elt rfl Fi_nil (E_callG rfl hR (C_cons rfl (E_nameC rfl) C_nil) (hR' n))) (by rw [List.length_map]; exact hnM)) V_nil) (me_joinF ns (rowT U) ?j2)) C_nil) hlin)) rfl ?r2
  case j2 =>
    show (txt U ns).length + ns.length ≤ _
    rw [hn5]
    exact Nat.le_trans (Nat.add_le_add_right htl 5) (by decide)
  case r2 =>
  refine' N_to _ (S_iff (T_cmp (E_comp (items := V.map D.str) rfl rfl (I_list rfl (E_nameC rfl) hVD) (F_map1 (k := fun v => D.str (dots v)) ?f3) (by rw [List.length_map, ← List.length_map (f := D.str)]; exact hVD)) (E_callG rfl hS (C_cons rfl (E_nameC rfl) C_nil) (hS' ns hn0 (by rw [hn5]; decide))) rfl rfl ?c3) rfl (X_seq Q_nil)) rfl ?r3
  case f3 => exact fun v hv => Tu_elt rfl Fi_nil (E_iteS (T_cmp (E_callB rfl hL (V_cons rfl (E_name rfl) V_nil) (bi_len v (hvl v hv))) (E_const rfl) rfl rfl (pc_len2 v)) (E_constS kk_dd) (E_nameC rfl))
  case c3 =>
    have e : (V.map fun v => D.str (dots v)) = (shape ns).map .str := by rw [← hsh, List.map_map]; rfl
    rw [e]
    exact ne_same (ne_strs _)
  case r3 =>
  refine' N_to (lE zs ns [nm "lines" (.list (V.map .str)), nm "roads" (roadsD R)]) (S_assign (d := roadsD R) rfl rfl ?e4) rfl ?r4
  case e4 =>
    unfold roadsD
    rw [← hroads]
    refine E_slice (E_comp (items := ns.map fun n : Nat => D.int (n : Int)) rfl rfl (I_list rfl (E_nameC rfl) hnD) (F_filter (c := isRoad) (h := fun n => D.str (ps (pr n))) fun n _ => ?_) ?_) Bd_none (Bd_some (E_const rfl)) (sl_lo (i := 4) rfl (by decide) ?_)
    · exact Tu_if rfl (Fi_one (T_cmp (E_bin (E_bin (E_name rfl) (E_const rfl) (lf_div rfl (lit 36) (by decide) (by decide))) (E_const rfl) (lf_mod rfl (lit 6) (by decide))) (E_const rfl) rfl rfl (lf_ne rfl (lit 0)))) (E_callG rfl hP (C_cons rfl (E_nameC rfl) C_nil) (hP' n))
    · rw [List.length_map]; exact Nat.le_trans hkl (by decide)
    · rw [List.length_map]; exact Nat.le_trans hkl (by decide)
  case r4 =>
  refine' N_to (lE zs ns [nm "lines" (.list (V.map .str)), nm "roads" (roadsD R), nm "pairs" (roadsD R)]) (S_assign (d := roadsD R) rfl rfl ?e5) rfl ?r5
  case e5 =>
    unfold roadsD
    rw [← hpairs]
    refine E_slice (E_comp (items := V.map D.str) rfl rfl (I_list rfl (E_nameC rfl) hVD) (F_filter (c := fun v => v.length == 2) (h := D.str) fun v hv => ?_) ?_) Bd_none (Bd_some (E_const rfl)) (sl_lo (i := 4) rfl (by decide) ?_)
    · exact Tu_if rfl (Fi_one (T_cmp (E_callB rfl hL (V_cons rfl (E_name rfl) V_nil) (bi_len v (hvl v hv))) (E_const rfl) rfl rfl (pc_len2 v))) (E_nameC rfl)
    · rw [List.length_map]; exact Nat.le_trans (List.length_filter_le _ _) (Nat.le_trans hVl (by decide))
    · rw [List.length_map]; exact Nat.le_trans (List.length_filter_le _ _) (Nat.le_trans hVl (by decide))
  case r5 =>
  have hod : intsD (orders R) = .list ((List.range' 1 (2 ^ R.length - 1)).map fun ch => D.int ((due (sub R ch) : Nat) : Int)) := by
    rw [orders_due hR4 hR9]
    unfold intsD
    rw [List.map_map]
    rfl
  have hoo := hO' R hR4
  refine' N_ret (S_ret rfl (E_cmp (c := true) (E_callG rfl hO (C_cons rfl (E_nameC rfl) C_nil) hoo) (E_comp rfl rfl (I_rangeN2 (a := 1) (n := 2 ^ R.length) rfl (V_cons rfl (E_const rfl) (V_cons rfl (E_bin (E_const rfl) (hbl rfl rfl) (lf_pow (lit 2) rfl (by decide) (Nat.le_trans hR4 (by decide)))) V_nil)) (Nat.le_trans h16 (by decide)) Nat.one_le_two_pow) (F_map1 (k := fun ch => D.int ((due (sub R ch) : Nat) : Int)) ?f6) ?l6) rfl rfl ?c6)) rfl
  case l6 => rw [List.length_map, List.length_range']; exact Nat.le_trans (Nat.sub_le _ _) (Nat.le_trans h16 (by decide))
  case c6 =>
    rw [← hod]
    exact eq_same (deep_ints _)
  case f6 =>
    intro ch _
    have hsd : roadsD (sub R ch) = .list (((List.range R.length).filter (bit ch)).map fun k => D.str (ps (R.getD k 0))) := by
      unfold roadsD sub
      rw [List.map_map]
      rfl
    have hdd := hD' (sub R ch) (Nat.le_trans (sub_len R ch) hR4)
    rw [hsd] at hdd
    refine Tu_elt rfl Fi_nil (E_callG rfl hD (C_cons rfl (E_comp rfl rfl (I_rangeN (n := R.length) rfl (V_cons rfl (hbl rfl rfl) V_nil) hRM) (F_filter (c := bit ch) (h := fun k => D.str (ps (R.getD k 0))) fun k hk => ?_) ?_) C_nil) hdd)
    · have hk' := List.mem_range.mp hk
      have hk4 : k ≤ 4 := Nat.le_trans (Nat.le_of_lt hk') hR4
      exact Tu_if rfl (Fi_one (T_cmp (E_bin (E_bin (E_name rfl) (E_bin (E_const rfl) (E_name rfl) (lf_pow (lit 2) rfl (by decide) (Nat.le_trans hk4 (by decide)))) (lf_div rfl rfl (Nat.ne_of_gt (Nat.two_pow_pos k)) (Nat.lt_of_le_of_lt (Nat.pow_le_pow_right (n := 2) (by decide) hk4) (by decide)))) (E_const rfl) (lf_mod rfl (lit 2) (by decide))) (E_const rfl) rfl rfl (lf_eq rfl (lit 1)))) (E_sub rfl (E_name rfl) (E_name rfl) (pi_mapL (fun k => D.str (ps k)) R k 0 hk' hRM))
    · rw [List.length_map]
      refine Nat.le_trans (List.length_filter_le _ _) ?_
      rw [List.length_range]; exact hRM
end Row3
end Mine
end
section
open PySem PySem.W PyProof.Rows PySem.Challenge
set_option Elab.async false
set_option maxRecDepth 100000
namespace Mine
namespace Row3
theorem n3 : (dd 3).name = Str.ofString "in_table_c4" := by kernel_rfl
theorem n4 : (dd 4).name = Str.ofString "_law_number" := by kernel_rfl
theorem n5 : (dd 5).name = Str.ofString "_law_nothing" := by kernel_rfl
theorem n6 : (dd 6).name = Str.ofString "_law_nobody" := by kernel_rfl
theorem n7 : (dd 7).name = Str.ofString "_law_pair" := by kernel_rfl
theorem n8 : (dd 8).name = Str.ofString "_law_row" := by kernel_rfl
theorem n9 : (dd 9).name = Str.ofString "_law_shape" := by kernel_rfl
theorem n10 : (dd 10).name = Str.ofString "_law_lines" := by kernel_rfl
theorem n11 : (dd 11).name = Str.ofString "_law_orders" := by kernel_rfl
theorem n12 : (dd 12).name = Str.ofString "_law_rings" := by kernel_rfl
theorem n13 : (dd 13).name = Str.ofString "_law_due" := by kernel_rfl
theorem n14 : (dd 14).name = Str.ofString "law" := by kernel_rfl
noncomputable def G0 : Tab := tab0 T
noncomputable def G1 : Tab := (Str.ofString "in_table_c4", fn G0 3) :: G0
noncomputable def G2 : Tab := (Str.ofString "_law_number", fn G1 4) :: G1
noncomputable def G3 : Tab := (Str.ofString "_law_nothing", fn G2 5) :: G2
noncomputable def G4 : Tab := (Str.ofString "_law_nobody", fn G3 6) :: G3
noncomputable def G5 : Tab := (Str.ofString "_law_pair", fn G4 7) :: G4
noncomputable def G6 : Tab := (Str.ofString "_law_row", fn G5 8) :: G5
noncomputable def G7 : Tab := (Str.ofString "_law_shape", fn G6 9) :: G6
noncomputable def G8 : Tab := (Str.ofString "_law_lines", fn G7 10) :: G7
noncomputable def G9 : Tab := (Str.ofString "_law_orders", fn G8 11) :: G8
noncomputable def G10 : Tab := (Str.ofString "_law_rings", fn G9 12) :: G9
noncomputable def G11 : Tab := (Str.ofString "_law_due", fn G10 13) :: G10
noncomputable def G12 : Tab := (Str.ofString "law", fn G11 14) :: G11
theorem step_of {G : Tab} {i : Nat} {s : Str} (h : (dd i).name = s) : stepG G (dd i) = (s, fn G i) :: G := by
  subst h; rfl
theorem plain_is : plainDefs pw_wn0090_03 = [dd 3, dd 4, dd 5, dd 6, dd 7, dd 8, dd 9, dd 10, dd 11, dd 12, dd 13, dd 14] := by kernel_rfl
theorem tab_is : theTab pw_wn0090_03 = G12 := by
  unfold theTab
  rw [plain_is]
  show stepG (stepG (stepG (stepG (stepG (stepG (stepG (stepG (stepG (stepG (stepG (stepG G0 (dd 3)) (dd 4)) (dd 5)) (dd 6)) (dd 7)) (dd 8)) (dd 9)) (dd 10)) (dd 11)) (dd 12)) (dd 13)) (dd 14) = G12
  rw [step_of n3, step_of n4, step_of n5, step_of n6, step_of n7, step_of n8, step_of n9, step_of n10, step_of n11, step_of n12, step_of n13, step_of n14]
  rfl
theorem readers : Readers G7 T where
  c4 := ⟨fn G0 3, rfl, fun c => c4_ok rfl c⟩
  b1 := ⟨inB1, rfl, fun _ => rfl⟩
  b3 := ⟨map3 T, rfl, fun _ => rfl⟩
theorem rows : ∃ U : Nat → List Nat, ∀ n : Nat, Body n (U n) ∧ fn G5 8 [.int (n : Int)] = some (.str (rowT U n)) := by
  have h : ∀ n : Nat, ∃ U, Body n U ∧ fn G5 8 [.int (n : Int)] = some (.str (U ++ (ends n).getD (n / 9 % 4) [])) := fun n =>
    row_ok (G := G5) (P := fn G4 7) (N := fn G2 5) (B := fn G3 6) rfl (fun n => pair_ok n) rfl (fun k => nothing_ok rfl k) rfl (fun k => nobody_ok rfl k) rfl rfl n
  exact ⟨fun n => Classical.choose (h n), fun n => Classical.choose_spec (h n)⟩
theorem kit {U : Nat → List Nat} (h : ∀ n : Nat, fn G5 8 [.int (n : Int)] = some (.str (rowT U n))) : Kit G11 U where
  num := ⟨fn G1 4, rfl, fun zs hz p s hs => number_ok rfl zs hz p s hs⟩
  pair := ⟨fn G4 7, rfl, fun n => by rw [ps_pr]; exact pair_ok n⟩
  row := ⟨fn G5 8, rfl, h⟩
  shape := ⟨fn G6 9, rfl, fun ns h0 h1 => shape_ok ns h0 h1⟩
  lines := ⟨fn G7 10, rfl, fun x A h1 h2 h3 h4 h5 => lines_ok readers rfl h1 h2 h3 h4 h5⟩
  orders := ⟨fn G8 11, rfl, fun R hR => orders_ok rfl rfl R hR⟩
  due := ⟨fn G10 13, rfl, fun S hS => due_ok (G := G10) (Q := fn G9 12) rfl rfl rfl (fun S hS => rings_ok rfl S hS) S hS⟩
  len := rfl
theorem law_is : lawOf pw_wn0090_03 = some (fn G11 14) := by
  unfold lawOf
  rw [tab_is]
  rfl
theorem proved : rw_wn0090_03.Holds := by
  obtain ⟨U, hU⟩ := rows
  exact holds law_is (law_ok (fun n => (hU n).1) (kit fun n => (hU n).2))
end Row3
end Mine
end
theorem PySem.Challenge.cw_wn0090_03_holds : PySem.Challenge.rw_wn0090_03.Holds :=
  Mine.Row3.proved
