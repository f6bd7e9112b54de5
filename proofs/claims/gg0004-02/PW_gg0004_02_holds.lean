import PyProof.Rows.All
import Wide.All
import OpenK.AllK
import Wide.FinOn
import PySem.Challenge.RW_gg0004_02
namespace Mine
open PySem PySem.Spec PySem.Calls PyProof.Rows PySem.W
open Sem (wp)
set_option linter.unusedVariables false

/-- pure data -/
inductive D where
  | none
  | bool (b : Bool)
  | int (i : Int)
  | tup (l : List D)
  | lst (l : List D)
  | rng (a : Int) (n : Nat)
  | dct (l : List ((Int × Int) × D))
  | itm (l : List ((Int × Int) × D))
  | adr (a : Addr)

abbrev tupO (vs : Array Value) (n : Nat) : Obj := { cls := .type "tuple", data := .seq vs n }
abbrev lstO (vs : Array Value) (n : Nat) : Obj := { cls := .type "list", data := .seq vs n }

mutual
/-- in heap h the value v bears the data d, by objects outside X -/
def Rp (X : Addr → Prop) (h : Heap) : D → Value → Prop
  | .none, v => v = .none
  | .bool b, v => v = .bool b
  | .int i, v => ∃ t, v = .int i t
  | .tup l, v => ∃ a vs n, v = .ref a ∧ ¬ X a ∧ h.get? a = some (tupO vs n) ∧ RpL X h l vs.toList
  | .lst l, v => ∃ a vs n, v = .ref a ∧ ¬ X a ∧ h.get? a = some (lstO vs n) ∧ RpL X h l vs.toList
  | .rng x n, v => ∃ a b t u t', v = .ref a ∧ ¬ X a ∧ IsRange h a x b 1 t u t' ∧ (b - x).toNat = n ∧ -1073741824 < b ∧ b < 1073741824
  | .dct _, _ => False
  | .itm _, _ => False
  | .adr a, v => v = .ref a
def RpL (X : Addr → Prop) (h : Heap) : List D → List Value → Prop
  | [], vs => vs = []
  | d :: l, vs => ∃ v r, vs = v :: r ∧ Rp X h d v ∧ RpL X h l r
end

/-- all objects outside Y kept -/
def Kp (Y : Addr → Prop) (h h' : Heap) : Prop := ∀ b o, ¬ Y b → h.get? b = some o → h'.get? b = some o

theorem Kp.refl {Y : Addr → Prop} {h : Heap} : Kp Y h h := fun _ _ _ e => e
theorem Kp.trans {Y : Addr → Prop} {h h' h'' : Heap} (a : Kp Y h h') (b : Kp Y h' h'') : Kp Y h h'' := fun c o n e => b c o n (a c o n e)
theorem Kp.mono {Y Y' : Addr → Prop} {h h' : Heap} (a : Kp Y h h') (s : ∀ b, Y b → Y' b) : Kp Y' h h' := fun c o n e => a c o (fun q => n (s c q)) e
theorem Kp.of {Y : Addr → Prop} {h h' : Heap} (k : ∀ b o, h.get? b = some o → h'.get? b = some o) : Kp Y h h' := fun c o _ e => k c o e
theorem Kp.push {Y : Addr → Prop} {h : Heap} (o : Obj) : Kp Y h (h.push o) := fun c _ _ e => Heap.get?_push_of_some _ e
theorem Kp.same {Y : Addr → Prop} {h h' : Heap} {a : Addr} (s : Heap.SameBut a h h') (ha : Y a) : Kp Y h h' := fun c o n e => (s.2 c fun q => n (q ▸ ha)).trans e

mutual
theorem Rp.kp {X Y : Addr → Prop} {h h' : Heap} (k : Kp Y h h') (s : ∀ b, Y b → X b) : ∀ {d : D} {v : Value}, Rp X h d v → Rp X h' d v
  | .none, _, x => x
  | .bool _, _, x => x
  | .int _, _, x => x
  | .tup l, _, x => by
    simp only [Rp] at x ⊢
    obtain ⟨a, vs, n, e, hx, g, r⟩ := x
    exact ⟨a, vs, n, e, hx, k a _ (fun q => hx (s a q)) g, RpL.kp k s r⟩
  | .lst l, _, x => by
    simp only [Rp] at x ⊢
    obtain ⟨a, vs, n, e, hx, g, r⟩ := x
    exact ⟨a, vs, n, e, hx, k a _ (fun q => hx (s a q)) g, RpL.kp k s r⟩
  | .rng _ _, _, x => by
    simp only [Rp] at x ⊢
    obtain ⟨a, b, t, u, t', e, hx, g, r⟩ := x
    exact ⟨a, b, t, u, t', e, hx, k a _ (fun q => hx (s a q)) g, r⟩
  | .dct _, _, x => by simp only [Rp] at x
  | .itm _, _, x => by simp only [Rp] at x
  | .adr _, _, x => x
theorem RpL.kp {X Y : Addr → Prop} {h h' : Heap} (k : Kp Y h h') (s : ∀ b, Y b → X b) : ∀ {l : List D} {vs : List Value}, RpL X h l vs → RpL X h' l vs
  | [], _, x => x
  | d :: l, _, x => by
    simp only [RpL] at x ⊢
    obtain ⟨v, r, e, a, b⟩ := x
    exact ⟨v, r, e, Rp.kp k s a, RpL.kp k s b⟩
end

mutual
theorem Rp.av {X X' : Addr → Prop} {h : Heap} (s : ∀ b o, h.get? b = some o → X' b → X b) : ∀ {d : D} {v : Value}, Rp X h d v → Rp X' h d v
  | .none, _, x => x
  | .bool _, _, x => x
  | .int _, _, x => x
  | .tup l, _, x => by
    simp only [Rp] at x ⊢
    obtain ⟨a, vs, n, e, hx, g, r⟩ := x
    exact ⟨a, vs, n, e, fun q => hx (s a _ g q), g, RpL.av s r⟩
  | .lst l, _, x => by
    simp only [Rp] at x ⊢
    obtain ⟨a, vs, n, e, hx, g, r⟩ := x
    exact ⟨a, vs, n, e, fun q => hx (s a _ g q), g, RpL.av s r⟩
  | .rng _ _, _, x => by
    simp only [Rp] at x ⊢
    obtain ⟨a, b, t, u, t', e, hx, g, r⟩ := x
    exact ⟨a, b, t, u, t', e, fun q => hx (s a _ g q), g, r⟩
  | .dct _, _, x => by simp only [Rp] at x
  | .itm _, _, x => by simp only [Rp] at x
  | .adr _, _, x => x
theorem RpL.av {X X' : Addr → Prop} {h : Heap} (s : ∀ b o, h.get? b = some o → X' b → X b) : ∀ {l : List D} {vs : List Value}, RpL X h l vs → RpL X' h l vs
  | [], _, x => x
  | d :: l, _, x => by
    simp only [RpL] at x ⊢
    obtain ⟨v, r, e, a, b⟩ := x
    exact ⟨v, r, e, Rp.av s a, RpL.av s b⟩
end

theorem RpL.length {X : Addr → Prop} {h : Heap} : ∀ {l : List D} {vs : List Value}, RpL X h l vs → vs.length = l.length
  | [], _, x => by simp only [RpL] at x; rw [x]; rfl
  | d :: l, _, x => by
    simp only [RpL] at x
    obtain ⟨v, r, rfl, a, b⟩ := x
    simp [RpL.length b]
theorem RpL.append {X : Addr → Prop} {h : Heap} : ∀ {l l' : List D} {vs vs' : List Value}, RpL X h l vs → RpL X h l' vs' → RpL X h (l ++ l') (vs ++ vs')
  | [], _, _, _, x, y => by simp only [RpL] at x; subst x; exact y
  | d :: l, _, _, _, x, y => by
    simp only [RpL] at x
    obtain ⟨v, r, rfl, a, b⟩ := x
    simp only [List.cons_append, RpL]
    exact ⟨v, _, rfl, a, RpL.append b y⟩
theorem RpL.get {X : Addr → Prop} {h : Heap} : ∀ {l : List D} {vs : List Value} {i : Nat} {d : D}, RpL X h l vs → l[i]? = some d → ∃ v, vs[i]? = some v ∧ Rp X h d v
  | [], _, i, d, _, e => by simp at e
  | c :: l, _, i, d, x, e => by
    simp only [RpL] at x
    obtain ⟨v, r, rfl, a, b⟩ := x
    cases i with
    | zero => simp at e; subst e; exact ⟨v, rfl, a⟩
    | succ i => simp at e; obtain ⟨u, hu, hr⟩ := RpL.get b e; exact ⟨u, by simpa using hu, hr⟩
theorem RpL.get' {X : Addr → Prop} {h : Heap} {l : List D} {vs : List Value} {i : Nat} {v : Value} (x : RpL X h l vs) (e : vs[i]? = some v) : ∃ d, l[i]? = some d ∧ Rp X h d v := by
  have hi : i < vs.length := (List.getElem?_eq_some_iff.mp e).1
  rw [x.length] at hi
  obtain ⟨u, hu, hr⟩ := x.get (List.getElem?_eq_getElem hi)
  rw [e] at hu
  cases hu
  exact ⟨_, List.getElem?_eq_getElem hi, hr⟩
theorem RpL.one {X : Addr → Prop} {h : Heap} {d : D} {v : Value} (x : Rp X h d v) : RpL X h [d] [v] := by
  simp only [RpL]; exact ⟨v, [], rfl, x, rfl⟩
theorem RpL.of_get {X : Addr → Prop} {h : Heap} : ∀ {l : List D} {vs : List Value}, vs.length = l.length → (∀ (i : Nat) d v, l[i]? = some d → vs[i]? = some v → Rp X h d v) → RpL X h l vs
  | [], vs, e, _ => by simp only [RpL]; exact List.length_eq_zero_iff.mp e
  | d :: l, [], e, _ => by simp at e
  | d :: l, v :: vs, e, k => by
    simp only [RpL]
    exact ⟨v, vs, rfl, k 0 d v rfl rfl, RpL.of_get (by simpa using e) fun i d' v' h1 h2 => k (i + 1) d' v' (by simpa using h1) (by simpa using h2)⟩
theorem RpL.take {X : Addr → Prop} {h : Heap} {l : List D} {vs : List Value} (x : RpL X h l vs) (n : Nat) : RpL X h (l.take n) (vs.take n) := by
  refine RpL.of_get (by simp [x.length]) fun i d v h1 h2 => ?_
  rw [List.getElem?_take] at h1 h2
  split at h1
  · rename_i hi
    rw [if_pos hi] at h2
    obtain ⟨u, hu, hr⟩ := x.get h1
    rw [h2] at hu; cases hu; exact hr
  · cases h1
theorem RpL.reverse {X : Addr → Prop} {h : Heap} : ∀ {l : List D} {vs : List Value}, RpL X h l vs → RpL X h l.reverse vs.reverse
  | [], _, x => by simp only [RpL] at x; subst x; simp [RpL]
  | d :: l, _, x => by
    simp only [RpL] at x
    obtain ⟨v, r, rfl, a, b⟩ := x
    simp only [List.reverse_cons]
    exact b.reverse.append (.one a)

/-- what is fixed: the program, the world, the base heap (the two tables hidden), the globals, the code tables -/
structure Cfg where
  prog : Program
  w : World
  B : Heap
  mg : Str → Option Value
  mb : Str → Option Value
  /-- code object, its table, place and qualname of the def within -/
  tabs : List (Addr × Addr × Pos × Str)

def Cfg.Tb (C : Cfg) (b : Addr) : Prop := ∃ q ∈ C.tabs, q.2.1 = b

def TabOk (h : Heap) (q : Addr × Addr × Pos × Str) : Prop :=
  ∃ ps, h.get? q.2.1 = some (tabObj ps) ∧ TriplesOk ps.toList ∧ (codeAmong q.2.2.1 ps.toList = none ∨ ∃ c', codeAmong q.2.2.1 ps.toList = some (.ref c') ∧ h.CodeRec (.ref c') q.2.2.2)

structure HOk (C : Cfg) (h : Heap) : Prop where
  base : ∀ b o, C.B.get? b = some o → h.get? b = some o
  tabs : ∀ q ∈ C.tabs, TabOk h q

/-- an object that a code table's facts may hang on -/
def JA (h : Heap) (b : Addr) : Prop := ∃ o vs, h.get? b = some o ∧ o.data = .fields vs ∧ (o.cls = .none ∨ ∃ s t, vs[1]? = some (.str s t))

theorem HOk.step {C : Cfg} {Y : Addr → Prop} {h h' : Heap} (H : HOk C h) (k : Kp Y h h') (n : ∀ b, Y b → C.B.get? b = none ∧ ¬ JA h b) : HOk C h' := by
  refine ⟨fun b o e => k b o (fun q => by rw [(n b q).1] at e; cases e) (H.base b o e), fun q hq => ?_⟩
  obtain ⟨ps, e, t, r⟩ := H.tabs q hq
  refine ⟨ps, k _ _ (fun y => (n _ y).2 ⟨_, ps, e, rfl, .inl rfl⟩) e, t, r.imp id fun ⟨c', e1, c, o, vs, tk, e2, e3, e4, e5⟩ => ⟨c', e1, c, o, vs, tk, e2, k _ _ (fun y => (n _ y).2 ⟨_, vs, e3, e4, .inr ⟨_, _, e5⟩⟩) e3, e4, e5⟩⟩
theorem HOk.keeps {C : Cfg} {h h' : Heap} (H : HOk C h) (k : ∀ b o, h.get? b = some o → h'.get? b = some o) : HOk C h' :=
  H.step (Y := fun _ => False) (fun b o _ e => k b o e) fun _ q => q.elim
theorem HOk.push {C : Cfg} {h : Heap} (H : HOk C h) (o : Obj) : HOk C (h.push o) := H.keeps fun _ _ e => Heap.get?_push_of_some _ e
theorem HOk.same {C : Cfg} {h h' : Heap} {a : Addr} (H : HOk C h) (s : Heap.SameBut a h h') (hb : C.B.get? a = none) (hj : ¬ JA h a) : HOk C h' :=
  H.step (Y := fun b => b = a) (fun b o' n e => (s.2 b n).trans e) fun b q => by subst q; exact ⟨hb, hj⟩
theorem nja_data {h : Heap} {a : Addr} {o : Obj} (e : h.get? a = some o) (hd : ∀ vs, o.data ≠ .fields vs) : ¬ JA h a := fun ⟨o', vs, e', d, _⟩ => by
  rw [e] at e'; cases e'; exact hd vs d
theorem HOk.baseNone {C : Cfg} {h : Heap} {a : Addr} (H : HOk C h) (e : h.get? a = none) : C.B.get? a = none := by
  cases q : C.B.get? a with
  | none => rfl
  | some o => have := H.base a o q; rw [e] at this; cases this
theorem get_size (h : Heap) : h.get? h.objs.size = none := by
  cases q : h.get? h.objs.size with
  | none => rfl
  | some o => exact absurd (Heap.lt_size q) (Nat.lt_irrefl _)

theorem HOk.tbEx {C : Cfg} {h : Heap} (H : HOk C h) {b : Addr} (t : C.Tb b) : ∃ o, h.get? b = some o := by
  obtain ⟨q, hq, rfl⟩ := t
  obtain ⟨ps, e, _⟩ := H.tabs q hq
  exact ⟨_, e⟩

/-- X: holds the tables; all its objects are there -/
structure XOk (C : Cfg) (X : Addr → Prop) (h : Heap) : Prop where
  tb : ∀ b, C.Tb b → X b
  ex : ∀ b, X b → ∃ o, h.get? b = some o
theorem XOk.kp {C : Cfg} {X : Addr → Prop} {h h' : Heap} (x : XOk C X h) (H : HOk C h') (k : Kp C.Tb h h') : XOk C X h' := by
  refine ⟨x.tb, fun b hb => ?_⟩
  by_cases t : C.Tb b
  · exact H.tbEx t
  · obtain ⟨o, e⟩ := x.ex b hb
    exact ⟨o, k b o t e⟩
theorem XOk.via {C : Cfg} {X Y : Addr → Prop} {h h' : Heap} (x : XOk C X h) (H : HOk C h') (k : Kp Y h h') (n : ∀ b, Y b → X b → C.Tb b ∨ ∃ o, h'.get? b = some o) : XOk C X h' := by
  refine ⟨x.tb, fun b hb => ?_⟩
  by_cases t : Y b
  · exact (n b t hb).elim (fun q => H.tbEx q) id
  · obtain ⟨o, e⟩ := x.ex b hb
    exact ⟨o, k b o t e⟩
theorem XOk.fresh {C : Cfg} {X : Addr → Prop} {h : Heap} (x : XOk C X h) : ¬ X h.objs.size := fun q => by
  obtain ⟨o, e⟩ := x.ex _ q
  exact Nat.lt_irrefl _ (Heap.lt_size e)

/-- what is asked of the stack around -/
structure Aok (k : Nat) (A : Around) : Prop where
  handled : A.handled = none
  depth : A.depth + k < recursionLimit
  units : A.units + 10 * k + 10 < cLine
theorem Aok.mono {k k' : Nat} {A : Around} (x : Aok k A) (h : k' ≤ k) : Aok k' A := ⟨x.handled, by have := x.depth; omega, by have := x.units; omega⟩
theorem Aok.deeper {k : Nat} {A : Around} {env : Env} (x : Aok (k + 1) A) : Aok k (A.deeper env) :=
  ⟨x.handled, by have := x.depth; show A.depth + 1 + k < _; omega, by have := x.units; show A.units + 3 + 10 * k + 10 < _; omega⟩
theorem Aok.lt {k : Nat} {A : Around} (x : Aok k A) : A.units < cLine := by have := x.units; omega

end Mine
namespace Mine
open PySem PySem.Spec PySem.Calls PyProof.Rows PySem.W
set_option linter.unusedVariables false

abbrev Sc := List (Str × NameKind)
abbrev Ph := List (Str × D)
abbrev Fn := Str → List D → Option D

mutual
def toPy : D → Option PyData
  | .none => some .none
  | .bool b => some (.bool b)
  | .int i => some (.int i)
  | .tup l => (toPyL l).map .tuple
  | .lst l => (toPyL l).map .list
  | .rng .. => none
  | .dct _ => none
  | .itm _ => none
  | .adr _ => none
def toPyL : List D → Option (List PyData)
  | [] => some []
  | d :: l => match toPy d, toPyL l with
    | some p, some r => some (p :: r)
    | _, _ => none
end

def eqD (a b : D) : Option Bool := match toPy a, toPy b with
  | some p, some q => if p.canLay0 && q.canLay0 && decide (p.depth ≤ 8) then some (PyData.eqv p q) else none
  | _, _ => none

def cmpD : CmpOp → D → D → Option Bool
  | .Eq, .int a, .int b => some (a == b)
  | .NotEq, .int a, .int b => some (a != b)
  | .Lt, .int a, .int b => some (decide (a < b))
  | .LtE, .int a, .int b => some (decide (a ≤ b))
  | .Gt, .int a, .int b => some (decide (a > b))
  | .GtE, .int a, .int b => some (decide (a ≥ b))
  | .Is, .none, .none => some true
  | .Is, .int _, .none => some false
  | .Eq, .lst a, .lst b => eqD (.lst a) (.lst b)
  | .NotEq, .lst a, .lst b => (eqD (.lst a) (.lst b)).map (!·)
  | .Eq, .tup a, .tup b => eqD (.tup a) (.tup b)
  | .Eq, .bool a, .bool b => some (a == b)
  | .NotEq, .bool a, .bool b => some (a != b)
  | _, _, _ => none

def rep (l : List D) : Nat → List D
  | 0 => []
  | n + 1 => l ++ rep l n

def small (a : Int) : Bool := decide (-1073741824 < a) && decide (a < 1073741824)

def binD : Operator → D → D → Option D
  | .Add, .int a, .int b => some (.int (a + b))
  | .Sub, .int a, .int b => some (.int (a - b))
  | .Mult, .int a, .int b => if small a then some (.int (a * b)) else none
  | .FloorDiv, .int a, .int b => if small b && decide (b ≠ 0) then some (.int (a.fdiv b)) else none
  | .Mod, .int a, .int b => if decide (b ≠ 0) then some (.int (a.fmod b)) else none
  | .Pow, .int a, .int b => if small a && decide (0 ≤ b) && small b && decide (b ≤ 1000000) then some (.int (a ^ b.toNat)) else none
  | .RShift, .int a, .int b => if decide (0 ≤ b) then some (.int (a.fdiv (2 ^ b.toNat))) else none
  | .LShift, .int a, .int b => if decide (0 ≤ b) && decide (b ≤ 1000) && decide (a.natAbs < 2 ^ 64) then some (.int (a * 2 ^ b.toNat)) else none
  | .BitXor, .int a, .int b => some (.int (Builtin.bitXor a b))
  | .Add, .lst a, .lst b => if decide (a.length + b.length ≤ 1000) then some (.lst (a ++ b)) else none
  | .Mult, .lst a, .int n => if decide (0 ≤ n) && decide (n ≤ 1000) && decide (a.length ≤ 1000) then some (.lst (rep a n.toNat)) else none
  | _, _, _ => none

def truthD : D → Option Bool
  | .none => some false
  | .bool b => some b
  | .int i => some (i != 0)
  | .lst l => if decide (l.length ≤ 1000) then some (!l.isEmpty) else none
  | _ => none

def evBool (f : Expr → Option D) (op : BoolOp) : List Expr → Option D
  | [] => none
  | [e] => f e
  | e :: r => (f e).bind fun d => (truthD d).bind fun b => match op, b with
    | .And, false => some d
    | .Or, true => some d
    | _, _ => evBool f op r

def evCmp (f : Expr → Option D) (a : D) : List CmpOp → List Expr → Option D
  | [op], [e] => (f e).bind fun b => (cmpD op a b).map .bool
  | op :: op' :: ops, e :: e' :: es => (f e).bind fun b => (cmpD op a b).bind fun c => if c then evCmp f b (op' :: ops) (e' :: es) else some (.bool false)
  | _, _ => none

def evs (f : Expr → Option D) : List Expr → Option (List D)
  | [] => some []
  | e :: r => match e with
    | .Starred .. => none
    | e => (f e).bind fun d => (evs f r).bind fun l => some (d :: l)

def idxD (l : List D) (i : Int) : Option D := if decide (0 ≤ i) && decide (i < 1000000) then l[i.toNat]? else none

/-- a comprehension's target -/
def setA (x : Str) (d : D) : Ph → Ph
  | [] => [(x, d)]
  | (y, e) :: r => if x == y then (x, d) :: r else (y, e) :: setA x d r

def itemsD : D → Option (List D)
  | .lst l => if decide (l.length ≤ 1000) then some l else none
  | .rng a n => if decide (n ≤ 1000) && small a then some ((List.range n).map fun i => .int (a + (i : Nat))) else none
  | _ => none

def evIfs (f : Expr → Option D) : List Expr → Option Bool
  | [] => some true
  | e :: r => (f e).bind fun d => (truthD d).bind fun b => if b then evIfs f r else some false

def catO (a b : Option (List D)) : Option (List D) := match a, b with
  | some x, some y => some (x ++ y)
  | _, _ => none

/-- the turns over the items its of the first clause -/
def evComp (f : Ph → Expr → Option D) (elt : Expr) : List Comprehension → List D → Ph → Option (List D)
  | [], _, _ => none
  | g :: gs, its, φ => match g with
    | ⟨.Name x _, _, ifs, 0⟩ => its.foldr (fun d acc => catO
        ((evIfs (f (setA x d φ)) ifs).bind fun ok => if ok then
          (match gs with
            | [] => (f (setA x d φ) elt).map fun r => [r]
            | g' :: gs' => (f (setA x d φ) g'.iter).bind fun c => (itemsD c).bind fun its' => evComp f elt (g' :: gs') its' (setA x d φ))
          else some []) acc) (some [])
    | _ => none

/-- the scope of a comprehension within a block of scope sc -/
def scOk (sc : Sc) (names : Sc) : Bool := names.all fun p => match p.2 with
  | .local => names.lookup p.1 == some .local
  | .free => (sc.lookup p.1 == some .cell || sc.lookup p.1 == some .free) && names.lookup p.1 == some .free
  | .cell => false
  | _ => true
def keepFree (names : Sc) (φ : Ph) : Ph := φ.filter fun p => names.lookup p.1 == some .free
def targetsOk (names : Sc) : List Str → List Comprehension → Bool
  | _, [] => true
  | seen, ⟨.Name x _, _, _, 0⟩ :: r => names.lookup x == some .local && !(x == ("__debug__" : Str)) && !(x == ("__classdict__" : Str)) && !seen.contains x && targetsOk names (x :: seen) r
  | _, _ => false

/-- expressions without writes; calls by name through G -/
def ev (G : Fn) : Nat → Sc → Ph → Expr → Option D
  | 0, _, _, _ => none
  | n + 1, sc, φ, e => match e with
    | .Constant (.int i) _ _ => some (.int i)
    | .Constant (.bool b) _ _ => some (.bool b)
    | .Constant .none _ _ => some .none
    | .Name x _ => φ.lookup x
    | .BinOp l op r _ => (ev G n sc φ l).bind fun a => (ev G n sc φ r).bind fun b => binD op a b
    | .UnaryOp .Not x _ => (ev G n sc φ x).bind fun a => (truthD a).map fun b => .bool (!b)
    | .BoolOp op vs _ => evBool (ev G n sc φ) op vs
    | .IfExp t a b _ => (ev G n sc φ t).bind fun c => (truthD c).bind fun k => if k then ev G n sc φ a else ev G n sc φ b
    | .Compare l ops cs _ => if lastMarks ops cs then none else (ev G n sc φ l).bind fun a => evCmp (ev G n sc φ) a ops cs
    | .List es _ => (evs (ev G n sc φ) es).bind fun l => if decide (l.length ≤ 1000) then some (.lst l) else none
    | .Tuple es _ _ => (evs (ev G n sc φ) es).bind fun l => if decide (l.length ≤ 1000) then some (.tup l) else none
    | .Subscript v i _ => match i with
      | .Slice none (some u) none _ => (ev G n sc φ v).bind fun a => (ev G n sc φ u).bind fun b => match a, b with
        | .lst l, .int k => if decide (0 ≤ k) && small k && decide (l.length ≤ 1000) then some (.lst (l.take k.toNat)) else none
        | _, _ => none
      | .Slice none none (some (.UnaryOp .USub (.Constant (.int 1) _ _) _)) _ => (ev G n sc φ v).bind fun a => match a with
        | .lst l => if decide (l.length ≤ 1000) then some (.lst l.reverse) else none
        | _ => none
      | .Slice .. => none
      | i => (ev G n sc φ v).bind fun a => (ev G n sc φ i).bind fun b => match a, b with
        | .lst l, .int k => idxD l k
        | .tup l, .int k => idxD l k
        | _, _ => none
    | .Call (.Name f _) args [] _ => if sc.lookup f == some .globalImplicit then (evs (ev G n sc φ) args).bind fun l => G f l else none
    | .Call (.Attribute (.Name y py) m ap) [] [] p => if m == ("bit_length" : Str) && ap.endLine == p.line then (ev G n sc φ (.Name y py)).bind fun a => match a with
        | .int i => some (.int (Builtin.Int.intBits i))
        | _ => none
      else none
    | .ListComp elt gens scope _ => match gens with
      | [] => none
      | g :: gs => if scOk sc scope.names && targetsOk scope.names [] (g :: gs) && scope.kind == .function then
          (ev G n sc φ g.iter).bind fun c => (itemsD c).bind fun its => (evComp (ev G n scope.names) elt (g :: gs) its (keepFree scope.names φ)).bind fun l =>
            if decide (l.length ≤ 1000) then some (.lst l) else none
        else none
    | _ => none
end Mine
namespace Mine
open PySem PySem.Spec PySem.Calls PyProof.Rows PySem.W
open Sem (wp)
set_option linter.unusedVariables false

mutual
theorem Rp.reads {X : Addr → Prop} {h : Heap} : ∀ {d : D} {v : Value} {p : PyData}, Rp X h d v → toPy d = some p → ∃ as, Reads h v p as
  | .none, v, p, x, e => by simp only [Rp] at x; simp only [toPy, Option.some.injEq] at e; subst x e; exact ⟨_, .none⟩
  | .bool b, v, p, x, e => by simp only [Rp] at x; simp only [toPy, Option.some.injEq] at e; subst x e; exact ⟨_, .bool b⟩
  | .int i, v, p, x, e => by
    simp only [Rp] at x; obtain ⟨t, rfl⟩ := x; simp only [toPy, Option.some.injEq] at e; subst e; exact ⟨_, .int i t⟩
  | .tup l, v, p, x, e => by
    simp only [Rp] at x
    obtain ⟨a, vs, n, rfl, _, g, r⟩ := x
    simp only [toPy, Option.map_eq_some_iff] at e
    obtain ⟨q, e, rfl⟩ := e
    obtain ⟨as, ra⟩ := RpL.reads r e
    exact ⟨_, .tuple g rfl rfl ra⟩
  | .lst l, v, p, x, e => by
    simp only [Rp] at x
    obtain ⟨a, vs, n, rfl, _, g, r⟩ := x
    simp only [toPy, Option.map_eq_some_iff] at e
    obtain ⟨q, e, rfl⟩ := e
    obtain ⟨as, ra⟩ := RpL.reads r e
    exact ⟨_, .list g rfl rfl ra⟩
  | .rng .., _, _, _, e => by simp only [toPy] at e; cases e
  | .dct _, _, _, _, e => by simp only [toPy] at e; cases e
  | .itm _, _, _, _, e => by simp only [toPy] at e; cases e
  | .adr _, _, _, _, e => by simp only [toPy] at e; cases e
theorem RpL.reads {X : Addr → Prop} {h : Heap} : ∀ {l : List D} {vs : List Value} {p : List PyData}, RpL X h l vs → toPyL l = some p → ∃ as, ReadsAll h vs p as
  | [], _, _, x, e => by simp only [RpL] at x; simp only [toPyL, Option.some.injEq] at e; subst x e; exact ⟨_, .nil⟩
  | d :: l, _, _, x, e => by
    simp only [RpL] at x
    obtain ⟨v, r, rfl, a, b⟩ := x
    simp only [toPyL] at e
    split at e
    · rename_i p q e1 e2
      cases e
      obtain ⟨as, ra⟩ := Rp.reads a e1
      obtain ⟨bs, rb⟩ := RpL.reads b e2
      exact ⟨_, .cons ra rb⟩
    · cases e
end

section
variable {C : Cfg} {A : Around} {E : Value → Shared → Prop} {s : Shared} {X : Addr → Prop} {k : Nat}

theorem eqD_ok {a b : D} {va vb : Value} {c : Bool} {Q : Value → Shared → Prop} (K : Aok k A) (ra : Rp X s.heap a va) (rb : Rp X s.heap b vb) (e : eqD a b = some c) (h : Q (.bool c) s) :
    wpAny (model C.prog C.w) A (compareOp .Eq va vb) Q E s := by
  unfold eqD at e
  split at e
  · rename_i p q e1 e2
    split at e
    · rename_i hc
      cases e
      simp only [Bool.and_eq_true, decide_eq_true_eq] at hc
      obtain ⟨as, r1⟩ := ra.reads e1
      obtain ⟨bs, r2⟩ := rb.reads e2
      exact SeqAt.compareEq_reads r1 r2 hc.1.1 hc.1.2 (by have := K.units; have := Nat.min_le_left p.depth q.depth; omega) h
    · cases e
  · cases e
theorem neD_ok {a b : D} {va vb : Value} {c : Bool} {Q : Value → Shared → Prop} (K : Aok k A) (ra : Rp X s.heap a va) (rb : Rp X s.heap b vb) (e : eqD a b = some c) (h : Q (.bool (!c)) s) :
    wpAny (model C.prog C.w) A (compareOp .NotEq va vb) Q E s := by
  unfold eqD at e
  split at e
  · rename_i p q e1 e2
    split at e
    · rename_i hc
      cases e
      simp only [Bool.and_eq_true, decide_eq_true_eq] at hc
      obtain ⟨as, r1⟩ := ra.reads e1
      obtain ⟨bs, r2⟩ := rb.reads e2
      exact SeqAt.compareNe_reads r1 r2 hc.1.1 hc.1.2 (by have := K.units; have := Nat.min_le_left p.depth q.depth; omega) h
    · cases e
  · cases e

theorem Rp.int_inv {i : Int} {v : Value} {h : Heap} (x : Rp X h (.int i) v) : ∃ t, v = .int i t := by simpa only [Rp] using x
theorem Rp.bool_inv {b : Bool} {v : Value} {h : Heap} (x : Rp X h (.bool b) v) : v = .bool b := by simpa only [Rp] using x
theorem Rp.none_inv {v : Value} {h : Heap} (x : Rp X h .none v) : v = .none := by simpa only [Rp] using x
theorem Rp.lst_inv {l : List D} {v : Value} {h : Heap} (x : Rp X h (.lst l) v) : ∃ a vs n, v = .ref a ∧ ¬ X a ∧ h.get? a = some (lstO vs n) ∧ RpL X h l vs.toList := by simpa only [Rp] using x
theorem Rp.tup_inv {l : List D} {v : Value} {h : Heap} (x : Rp X h (.tup l) v) : ∃ a vs n, v = .ref a ∧ ¬ X a ∧ h.get? a = some (tupO vs n) ∧ RpL X h l vs.toList := by simpa only [Rp] using x
theorem Rp.rng_inv {a : Int} {n : Nat} {v : Value} {h : Heap} (x : Rp X h (.rng a n) v) : ∃ r b t u t', v = .ref r ∧ ¬ X r ∧ IsRange h r a b 1 t u t' ∧ (b - a).toNat = n ∧ -1073741824 < b ∧ b < 1073741824 := by simpa only [Rp] using x

theorem cmp_ok {op : CmpOp} {a b : D} {va vb : Value} {c : Bool} {Q : Value → Shared → Prop} (K : Aok k A) (ra : Rp X s.heap a va) (rb : Rp X s.heap b vb) (e : cmpD op a b = some c) (h : Q (.bool c) s) :
    wpAny (model C.prog C.w) A (compareOp op va vb) Q E s := by
  unfold cmpD at e
  split at e
  · cases e; obtain ⟨t, rfl⟩ := ra.int_inv; obtain ⟨u, rfl⟩ := rb.int_inv; exact P.eq_int h
  · cases e; obtain ⟨t, rfl⟩ := ra.int_inv; obtain ⟨u, rfl⟩ := rb.int_inv; exact P.ne_int h
  · cases e; obtain ⟨t, rfl⟩ := ra.int_inv; obtain ⟨u, rfl⟩ := rb.int_inv; exact P.lt_int h
  · cases e; obtain ⟨t, rfl⟩ := ra.int_inv; obtain ⟨u, rfl⟩ := rb.int_inv; exact P.le_int h
  · cases e; obtain ⟨t, rfl⟩ := ra.int_inv; obtain ⟨u, rfl⟩ := rb.int_inv; exact P.gt_int h
  · cases e; obtain ⟨t, rfl⟩ := ra.int_inv; obtain ⟨u, rfl⟩ := rb.int_inv; exact P.ge_int h
  · cases e; obtain rfl := ra.none_inv; obtain rfl := rb.none_inv; exact wpAny_is_self rfl h
  · cases e; obtain ⟨t, rfl⟩ := ra.int_inv; obtain rfl := rb.none_inv; exact wpAny_is_other rfl (fun q => nomatch q) h
  · exact eqD_ok K ra rb e h
  · rw [Option.map_eq_some_iff] at e; obtain ⟨c', e, rfl⟩ := e; exact neD_ok K ra rb e h
  · exact eqD_ok K ra rb e h
  · cases e; obtain rfl := ra.bool_inv; obtain rfl := rb.bool_inv
    exact SeqAt.compareEq_reads (.bool _) (.bool _) rfl rfl (by have := K.units; simp [PyData.depth]; omega) (by simpa [PyData.eqv] using h)
  · cases e; obtain rfl := ra.bool_inv; obtain rfl := rb.bool_inv
    exact SeqAt.compareNe_reads (.bool _) (.bool _) rfl rfl (by have := K.units; simp [PyData.depth]; omega) (by simpa [PyData.eqv, bne] using h)
  · cases e

theorem RpL.isEmpty {h : Heap} {l : List D} {vs : Array Value} (r : RpL X h l vs.toList) : vs.isEmpty = l.isEmpty := by
  rw [← Array.isEmpty_toList]
  cases l with
  | nil => simp only [RpL] at r; rw [r]; rfl
  | cons d l => simp only [RpL] at r; obtain ⟨v, w, e, _⟩ := r; rw [e]; rfl

theorem truth_ok {a : D} {v : Value} {c : Bool} {Q : Bool → Shared → Prop} (ra : Rp X s.heap a v) (e : truthD a = some c) (h : ∀ tk, Q c { s with toks := tk }) :
    wpAny (model C.prog C.w) A (truthy v) Q E s := by
  unfold truthD at e
  split at e
  · cases e; obtain rfl := ra.none_inv; exact truthy_none (h s.toks)
  · cases e; obtain rfl := ra.bool_inv; exact wpAny_truthy_bool (h s.toks)
  · cases e; obtain ⟨t, rfl⟩ := ra.int_inv; exact P.truthy_int (h s.toks)
  · split at e
    · rename_i hc
      cases e
      obtain ⟨a', vs, n, rfl, _, g, r⟩ := ra.lst_inv
      have hl := r.length
      simp only [decide_eq_true_eq] at hc
      refine wpAny_truthy_list (items := vs) ⟨_, g, rfl, n, rfl⟩ (by have : vs.size = vs.toList.length := by simp
                                                                     omega) ?_
      have e2 := r.isEmpty
      rw [e2]
      exact h _
    · cases e
  · cases e

/-- what a pure step gives back -/
abbrev Ret (C : Cfg) (X : Addr → Prop) (s : Shared) (d : D) (Q : Value → Shared → Prop) : Prop :=
  ∀ v h' tk, HOk C h' → Kp C.Tb s.heap h' → Rp X h' d v → Q v { s with heap := h', toks := tk }

theorem Ret.same {d : D} {Q : Value → Shared → Prop} (r : Ret C X s d Q) (H : HOk C s.heap) {v : Value} (x : Rp X s.heap d v) (tk : Nat) : Q v { s with toks := tk } := r v s.heap tk H .refl x
theorem Ret.newL {l : List D} {Q : Value → Shared → Prop} (r : Ret C X s (.lst l) Q) (H : HOk C s.heap) (x : XOk C X s.heap) {vs : Array Value} (y : RpL X s.heap l vs.toList) (tk : Nat) :
    Q (.ref s.heap.objs.size) { s with heap := s.heap.push (lstO vs 0), toks := tk } :=
  r _ _ tk (H.push _) (.push _) (by
    simp only [Rp]
    exact ⟨_, vs, 0, rfl, x.fresh, Heap.get?_push_size _ rfl, y.kp (Y := X) (.push _) fun _ q => q⟩)
theorem Ret.newT {l : List D} {Q : Value → Shared → Prop} (r : Ret C X s (.tup l) Q) (H : HOk C s.heap) (x : XOk C X s.heap) {vs : Array Value} (y : RpL X s.heap l vs.toList) (tk : Nat) :
    Q (.ref s.heap.objs.size) { s with heap := s.heap.push (tupO vs 0), toks := tk } :=
  r _ _ tk (H.push _) (.push _) (by
    simp only [Rp]
    exact ⟨_, vs, 0, rfl, x.fresh, Heap.get?_push_size _ rfl, y.kp (Y := X) (.push _) fun _ q => q⟩)

def repV (vs : List Value) : Nat → List Value
  | 0 => []
  | n + 1 => vs ++ repV vs n
theorem rep_ok {h : Heap} {l : List D} {vs : List Value} (y : RpL X h l vs) : ∀ n, RpL X h (rep l n) (repV vs n)
  | 0 => by simp only [rep, repV, RpL]
  | n + 1 => by simp only [rep, repV]; exact y.append (rep_ok y n)
theorem rep_fold (vs : Array Value) : ∀ (n : Nat) (acc : Array Value), (List.foldl (fun x1 x2 => x1 ++ x2) acc (List.replicate n vs)).toList = acc.toList ++ repV vs.toList n
  | 0, acc => by simp [repV]
  | n + 1, acc => by
    rw [List.replicate_succ, List.foldl_cons, rep_fold vs n]
    simp [repV]
theorem rep_nil : ∀ n, repV [] n = []
  | 0 => rfl
  | n + 1 => by simp [repV, rep_nil n]

theorem bin_ok {op : Operator} {a b d : D} {va vb : Value} {Q : Value → Shared → Prop} (K : Aok k A) (H : HOk C s.heap) (x : XOk C X s.heap) (ra : Rp X s.heap a va) (rb : Rp X s.heap b vb) (e : binD op a b = some d) (h : Ret C X s d Q) :
    wpAny (model C.prog C.w) A (binaryOp op va vb) Q E s := by
  unfold binD at e
  have mk : ∀ (i : Int) (t tk : Nat), d = .int i → Q (.int i t) { s with toks := tk } := fun i t tk q => by subst q; exact h.same H (by simp only [Rp]; exact ⟨t, rfl⟩) tk
  have ssm : ∀ {i : Int}, small i = true → i.natAbs < 1073741824 := fun {i} q => by simp only [small, Bool.and_eq_true, decide_eq_true_eq] at q; omega
  split at e
  · cases e; obtain ⟨t, rfl⟩ := ra.int_inv; obtain ⟨u, rfl⟩ := rb.int_inv; exact P.add_int (mk _ _ _ rfl)
  · cases e; obtain ⟨t, rfl⟩ := ra.int_inv; obtain ⟨u, rfl⟩ := rb.int_inv; exact P.sub_int (mk _ _ _ rfl)
  · split at e
    · rename_i q; cases e; obtain ⟨t, rfl⟩ := ra.int_inv; obtain ⟨u, rfl⟩ := rb.int_inv
      have := ssm q
      exact P.mul_int (mk _ _ _ rfl) (IntMulOk.of_left (intBits_le (by omega)))
    · cases e
  · split at e
    · rename_i q; cases e; obtain ⟨t, rfl⟩ := ra.int_inv; obtain ⟨u, rfl⟩ := rb.int_inv
      simp only [Bool.and_eq_true, decide_eq_true_eq] at q
      exact floordiv_int q.2 (mk _ _ _ rfl) (.inl (PyProof.noPylong_small (ssm q.1)))
    · cases e
  · split at e
    · rename_i q; cases e; obtain ⟨t, rfl⟩ := ra.int_inv; obtain ⟨u, rfl⟩ := rb.int_inv
      simp only [decide_eq_true_eq] at q
      exact mod_int q (mk _ _ _ rfl)
    · cases e
  · split at e
    · rename_i q; cases e; obtain ⟨t, rfl⟩ := ra.int_inv; obtain ⟨u, rfl⟩ := rb.int_inv
      simp only [Bool.and_eq_true, decide_eq_true_eq] at q
      have := ssm q.1.1.1
      exact pow_int_small q.1.1.2 q.2 (by omega) (mk _ _ _ rfl)
    · cases e
  · split at e
    · rename_i q; cases e; obtain ⟨t, rfl⟩ := ra.int_inv; obtain ⟨u, rfl⟩ := rb.int_inv
      simp only [decide_eq_true_eq] at q
      exact rshift_int q (mk _ _ _ rfl)
    · cases e
  · split at e
    · rename_i q; cases e; obtain ⟨t, rfl⟩ := ra.int_inv; obtain ⟨u, rfl⟩ := rb.int_inv
      simp only [Bool.and_eq_true, decide_eq_true_eq] at q
      exact lshift_int_small q.1.1 (by omega) q.2 (mk _ _ _ rfl)
    · cases e
  · cases e; obtain ⟨t, rfl⟩ := ra.int_inv; obtain ⟨u, rfl⟩ := rb.int_inv; exact xor_int (mk _ _ _ rfl)
  · split at e
    · rename_i l1 l2 q; cases e
      obtain ⟨a1, vs1, n1, rfl, _, g1, r1⟩ := ra.lst_inv
      obtain ⟨a2, vs2, n2, rfl, _, g2, r2⟩ := rb.lst_inv
      simp only [decide_eq_true_eq] at q
      have h1 := r1.length
      have h2 := r2.length
      refine P.add_list g1 g2 (h.newL H x (vs := vs1 ++ vs2) (by simpa using r1.append r2) s.toks) (by rw [sizeLine_eq]; simp only [Array.length_toList] at h1 h2; omega)
    · cases e
  · split at e
    · rename_i l1 n q; cases e
      obtain ⟨a1, vs1, n1, rfl, _, g1, r1⟩ := ra.lst_inv
      obtain ⟨u, rfl⟩ := rb.int_inv
      simp only [Bool.and_eq_true, decide_eq_true_eq] at q
      have h1 := r1.length
      simp only [Array.length_toList] at h1
      have hm : vs1.size * n.toNat ≤ 1000 * 1000 := Nat.mul_le_mul (by omega) (by omega)
      refine wpAny_binaryOp_repeat_ref (T := "list") (U := "int") (by decide) ⟨_, g1, rfl⟩ (fun s' => typeIs_int s' n u) noFill_list_mul F.fills_int_mul F.slot_int_rmul repeat_list F.slot_int_index.lookup
        (call_meets F.slot_int_rmul (typeIs_int s n u) F.entry_int_rmul (F.args_int_rmul_2 _ _) (int___rmul___int_list n u a1 vs1 n1)
          ⟨g1, rfl, ⟨_, g1, rfl⟩, call_meets F.slot_list_mul ⟨_, g1, rfl⟩ F.entry_list_mul (F.args_list_mul_2 _ _)
            (AutoListH.list___mul___list_int_3 a1 vs1 n1 n u (by simp [Builtin.List.listFitsIndex]; omega) (by omega) (by simp [Builtin.List.listTooLong, sizeLine]; omega))
            ⟨g1, ?_⟩⟩)
      refine h.newL H x ?_ s.toks
      rw [rep_fold]
      cases q2 : vs1.isEmpty with
      | true =>
        have e0 : vs1.toList = [] := by rw [← Array.isEmpty_toList] at q2; exact List.isEmpty_iff.mp q2
        have := rep_ok r1 n.toNat
        rw [e0, rep_nil] at this
        simpa [repV] using this
      | false => simpa using rep_ok r1 n.toNat
    · cases e
  · cases e
end
end Mine
namespace Mine
open PySem PySem.Spec PySem.Calls PyProof.Rows PySem.W
open Sem (wp)
set_option linter.unusedVariables false

/-- the frame: its scope's names sc, what its names bear φ -/
structure EnvOk (C : Cfg) (X : Addr → Prop) (sc : Sc) (env : Env) (φ : Ph) (h : Heap) : Prop where
  fn : env.scope.kind = .function
  gl : env.globals = mainGlobals
  bl : env.builtins = builtinsNs
  nl : ¬ C.Tb env.locals
  xl : X env.locals
  nc : ∀ x c, env.cells.lookup x = some c → ¬ C.Tb c
  xc : ∀ x c, env.cells.lookup x = some c → X c
  kd : ∀ x, env.kindOf x = sc.lookup x ∨ (sc.lookup x = some .free ∧ env.kindOf x = some .cell)
  cl : ∀ x, sc.lookup x = some .cell ∨ sc.lookup x = some .free → ∃ c, env.cells.lookup x = some c
  ld : ∀ x d, φ.lookup x = some d → (x == ("__debug__" : Str)) = false ∧ (x == ("__classdict__" : Str)) = false ∧ ∃ v, Rp X h d v ∧
    ((sc.lookup x = some .local ∧ ∃ m, h.Ns env.locals m ∧ m x = some v) ∨ ((sc.lookup x = some .cell ∨ sc.lookup x = some .free) ∧ ∃ c, env.cells.lookup x = some c ∧ h.IsCell c (some v)))

theorem EnvOk.kpY {C : Cfg} {X Y : Addr → Prop} {sc : Sc} {env : Env} {φ : Ph} {h h' : Heap} (x : EnvOk C X sc env φ h) (k : Kp Y h h') (t : ∀ b, Y b → X b) (nl : ¬ Y env.locals)
    (nc : ∀ x c, env.cells.lookup x = some c → ¬ Y c) : EnvOk C X sc env φ h' :=
  ⟨x.fn, x.gl, x.bl, x.nl, x.xl, x.nc, x.xc, x.kd, x.cl, fun y d e => by
    obtain ⟨h1, h2, v, r, q⟩ := x.ld y d e
    refine ⟨h1, h2, v, r.kp k t, q.imp (fun ⟨a, m, hn, hm⟩ => ⟨a, m, ?_, hm⟩) fun ⟨a, c, hc, o, ho, hd⟩ => ⟨a, c, hc, o, k c o (nc y c hc) ho, hd⟩⟩
    obtain ⟨o, es, ep, ho, r⟩ := hn
    exact ⟨o, es, ep, k _ o nl ho, r⟩⟩
theorem EnvOk.kp {C : Cfg} {X : Addr → Prop} {sc : Sc} {env : Env} {φ : Ph} {h h' : Heap} (x : EnvOk C X sc env φ h) (t : ∀ b, C.Tb b → X b) (k : Kp C.Tb h h') : EnvOk C X sc env φ h' := x.kpY k t x.nl x.nc
theorem EnvOk.av {C : Cfg} {X X' : Addr → Prop} {sc : Sc} {env : Env} {φ : Ph} {h : Heap} (x : EnvOk C X sc env φ h) (s : ∀ b o, h.get? b = some o → X' b → X b) (g : ∀ b, X b → X' b) : EnvOk C X' sc env φ h :=
  ⟨x.fn, x.gl, x.bl, x.nl, g _ x.xl, x.nc, fun y c e => g _ (x.xc y c e), x.kd, x.cl, fun y d e => by
    obtain ⟨h1, h2, v, r, q⟩ := x.ld y d e
    exact ⟨h1, h2, v, r.av s, q⟩⟩

theorem Ns_unique {h : Heap} {a : Addr} {m m' : Str → Option Value} (x : h.Ns a m) (y : h.Ns a m') : m = m' := by
  obtain ⟨o, es, ep, e, d, _, f⟩ := x
  obtain ⟨o', es', ep', e', d', _, f'⟩ := y
  rw [e] at e'; cases e'
  rw [d] at d'; cases d'
  funext z
  rw [← f z, f' z]
theorem lookup_setA {x y : Str} {d : D} : ∀ {φ : Ph}, (setA x d φ).lookup y = if y = x then some d else φ.lookup y
  | [] => by
    simp only [setA, List.lookup_cons, List.lookup_nil]
    by_cases q : y = x
    · subst q; simp
    · simp [q, beq_eq_false_iff_ne.mpr q]
  | (z, e) :: r => by
    unfold setA
    by_cases q : x = z
    · subst q
      simp only [beq_self_eq_true, if_true, List.lookup_cons]
      by_cases q : y = x
      · subst q; simp
      · simp [q, beq_eq_false_iff_ne.mpr q]
    · simp only [beq_eq_false_iff_ne.mpr q, Bool.false_eq_true, if_false, List.lookup_cons]
      by_cases q2 : y = z
      · subst q2
        simp [Ne.symm q]
      · simp only [beq_eq_false_iff_ne.mpr q2]
        exact lookup_setA

def okName (x : Str) : Bool := !(x == ("__debug__" : Str)) && !(x == ("__classdict__" : Str))

/-- a local name is stored -/
theorem EnvOk.store {C : Cfg} {X : Addr → Prop} {sc : Sc} {env : Env} {φ : Ph} {h h' : Heap} {x : Str} {d : D} {v : Value} {m : Str → Option Value} (e : EnvOk C X sc env φ h) (hx : sc.lookup x = some .local) (ok : okName x = true)
    (hn : h.Ns env.locals m) (hn' : h'.Ns env.locals (fun y => if y = x then some v else m y)) (hs : Heap.SameBut env.locals h h') (r : Rp X h d v) : EnvOk C X sc env (setA x d φ) h' := by
  have kk : Kp (fun b => b = env.locals) h h' := .same hs rfl
  have ss : ∀ b, (fun b => b = env.locals) b → X b := fun b q => q ▸ e.xl
  simp only [okName, Bool.and_eq_true, Bool.not_eq_true'] at ok
  refine ⟨e.fn, e.gl, e.bl, e.nl, e.xl, e.nc, e.xc, e.kd, e.cl, fun y d' ey => ?_⟩
  rw [lookup_setA] at ey
  by_cases q : y = x
  · subst q
    rw [if_pos rfl] at ey; cases ey
    exact ⟨ok.1, ok.2, v, r.kp kk ss, .inl ⟨hx, _, hn', by simp⟩⟩
  · rw [if_neg q] at ey
    obtain ⟨h1, h2, u, ru, z⟩ := e.ld y d' ey
    refine ⟨h1, h2, u, ru.kp kk ss, z.imp (fun ⟨a, m', hm', e'⟩ => ⟨a, _, hn', by rw [if_neg q, Ns_unique hn hm']; exact e'⟩) fun ⟨a, c, hc, o, ho, hd⟩ => ⟨a, c, hc, o, kk c o (fun w => ?_) ho, hd⟩⟩
    obtain ⟨o', _, _, ho', hd', _⟩ := hn
    rw [show c = env.locals from w, ho'] at ho; cases ho
    rw [hd'] at hd; cases hd
theorem EnvOk.forget {C : Cfg} {X : Addr → Prop} {sc : Sc} {env : Env} {φ : Ph} {h : Heap} {x : Str} {d : D} (e : EnvOk C X sc env (setA x d φ) h) (n : φ.lookup x = none) : EnvOk C X sc env φ h :=
  ⟨e.fn, e.gl, e.bl, e.nl, e.xl, e.nc, e.xc, e.kd, e.cl, fun y d' ey => e.ld y d' (by rw [lookup_setA, if_neg (fun q => by rw [q, n] at ey; cases ey)]; exact ey)⟩

structure St (C : Cfg) (X : Addr → Prop) (sc : Sc) (env : Env) (φ : Ph) (h : Heap) : Prop where
  H : HOk C h
  x : XOk C X h
  e : EnvOk C X sc env φ h
theorem St.kp {C : Cfg} {X : Addr → Prop} {sc : Sc} {env : Env} {φ : Ph} {h h' : Heap} (S : St C X sc env φ h) (H : HOk C h') (k : Kp C.Tb h h') : St C X sc env φ h' := ⟨H, S.x.kp H k, S.e.kp S.x.tb k⟩

/-- what the base heap says of names -/
structure CfgOk (C : Cfg) : Prop where
  g : C.B.Ns mainGlobals C.mg
  b : C.B.Ns builtinsNs C.mb
  nolimit : C.B.NoLimit
def Gval (C : Cfg) (f : Str) (v : Value) : Prop := C.mg f = some v ∨ (C.mg f = none ∧ C.mb f = some v)
def Keepable (C : Cfg) (v : Value) : Prop := ∀ h, HOk C h → ∃ k, (k = Keeper.frame ∨ k = Keeper.machine ∨ k = Keeper.boundFrame) ∧ Looks (model C.prog C.w) h (keeperOf v) k

abbrev RetB (C : Cfg) (s : Shared) (b : Bool) (Q : Bool → Shared → Prop) : Prop := ∀ h' tk, HOk C h' → Kp C.Tb s.heap h' → Q b { s with heap := h', toks := tk }
abbrev RetL (C : Cfg) (X : Addr → Prop) (s : Shared) (l : List D) (Q : List Value → Shared → Prop) : Prop :=
  ∀ vs h' tk, HOk C h' → Kp C.Tb s.heap h' → RpL X h' l vs → Q vs { s with heap := h', toks := tk }

/-- a call's contract: f on data gives data -/
def CallOk (C : Cfg) (k : Nat) (fv : Value) (ds : List D) (r : D) : Prop :=
  ∀ (A : Around) (X : Addr → Prop) (vs : List Value) (s : Shared) (Q E : Value → Shared → Prop), Aok k A → HOk C s.heap → XOk C X s.heap → RpL X s.heap ds vs → Ret C X s r Q → wpAny (model C.prog C.w) A (call fv vs) Q E s
def GOk (C : Cfg) (k : Nat) (G : Fn) : Prop := ∀ f ds r, G f ds = some r → (f == ("__debug__" : Str)) = false ∧ ∃ fv, Gval C f fv ∧ Keepable C fv ∧ CallOk C k fv ds r

section
variable {C : Cfg} {k : Nat} {X : Addr → Prop} {sc : Sc} {env : Env} {φ : Ph} {f : Expr → Option D}

def FOk (C : Cfg) (k : Nat) (X : Addr → Prop) (sc : Sc) (env : Env) (φ : Ph) (f : Expr → Option D) : Prop :=
  ∀ e d, f e = some d → ∀ (A : Around) (s : Shared) (Q E : Value → Shared → Prop), Aok k A → St C X sc env φ s.heap → Ret C X s d Q → wpAny (model C.prog C.w) A (eval e env) Q E s
def TOk (C : Cfg) (k : Nat) (X : Addr → Prop) (sc : Sc) (env : Env) (φ : Ph) (f : Expr → Option D) : Prop :=
  ∀ e d b, f e = some d → truthD d = some b → ∀ (A : Around) (s : Shared) (Q : Bool → Shared → Prop) (E : Value → Shared → Prop), Aok k A → St C X sc env φ s.heap → RetB C s b Q → wpAny (model C.prog C.w) A (isTrue e env (eval e env)) Q E s

theorem Name_ok {x : Str} {d : D} {pos : Pos} {A : Around} {s : Shared} {Q E : Value → Shared → Prop} (S : St C X sc env φ s.heap) (e : φ.lookup x = some d) (h : Ret C X s d Q) : wpAny (model C.prog C.w) A (eval (.Name x pos) env) Q E s := by
  obtain ⟨h1, h2, v, r, q⟩ := S.e.ld x d e
  refine wpAny_Name ?_ h1
  have fin := h.same S.H r s.toks
  rcases q with ⟨a, m, hn, hm⟩ | ⟨a, c, hc, hi⟩
  · refine wpAny_loadName_local S.e.fn ?_ hn hm fin
    rcases S.e.kd x with q | ⟨q, _⟩
    · rw [q]; exact a
    · rw [a] at q; cases q
  · have hk : env.kindOf x = some .cell ∨ env.kindOf x = some .free := by
      rcases S.e.kd x with q | ⟨_, q⟩
      · rw [q]; exact a
      · exact .inl q
    rcases hk with hk | hk
    · exact wpAny_loadName_cell S.e.fn hk hc hi fin
    · exact wpAny_loadName_free S.e.fn hk hc hi fin h2

theorem evs_ok {pos : Pos} {A : Around} (F : FOk C k X sc env φ f) (K : Aok k A) : ∀ (es : List Expr) (l : List D), evs f es = some l → ∀ (s : Shared) (Q : List Value → Shared → Prop) (E : Value → Shared → Prop), St C X sc env φ s.heap → RetL C X s l Q →
    wpAny (model C.prog C.w) A (spliced (backTo pos (starEach es env))) Q E s
  | [], l, e, s, Q, E, S, h => by
    simp only [evs, Option.some.injEq] at e; subst e
    exact spliced_none (h [] s.heap s.toks S.H .refl (by simp only [RpL]))
  | e :: es, l, h0, s, Q, E, S, h => by
    have hs : starEach (e :: es) env = (false, eval e env) :: starEach es env ∧ ∃ d l', f e = some d ∧ evs f es = some l' ∧ l = d :: l' := by
      cases e <;> first
        | (simp only [evs] at h0; cases h0; done)
        | (simp only [evs, Option.bind_eq_some_iff, Option.some.injEq] at h0
           obtain ⟨d, h1, l', h2, rfl⟩ := h0
           exact ⟨rfl, d, l', h1, h2, rfl⟩)
    obtain ⟨hst, d, l', h1, h2, rfl⟩ := hs
    refine spliced_more (F e d h1 A s _ E K S fun v h' tk H k1 r => ?_) hst
    refine evs_ok F K es l' h2 _ _ E (S.kp H k1) fun vs h'' tk' H' k2 r2 => ?_
    exact h _ h'' tk' H' (k1.trans k2) (by simp only [RpL]; exact ⟨v, vs, rfl, r.kp k2 S.x.tb, r2⟩)

theorem evBool_ok {pos : Pos} {op : BoolOp} {A : Around} (F : FOk C k X sc env φ f) (K : Aok k A) : ∀ (es : List Expr) (d : D), evBool f op es = some d → ∀ (s : Shared) (Q E : Value → Shared → Prop), St C X sc env φ s.heap → Ret C X s d Q →
    wpAny (model C.prog C.w) A (eval (.BoolOp op es pos) env) Q E s
  | [], d, e, _, _, _, _, _ => by simp only [evBool] at e; cases e
  | [e], d, h0, s, Q, E, S, h => by
    simp only [evBool] at h0
    exact BoolOp_one (F e d h0 A s Q E K S h)
  | e :: e' :: es, d, h0, s, Q, E, S, h => by
    simp only [evBool, Option.bind_eq_some_iff] at h0
    obtain ⟨d1, h1, b, hb, h2⟩ := h0
    cases op with
    | And =>
      refine BoolOp_and (F e d1 h1 A s _ E K S fun v h' tk H k1 r => truth_ok (C := C) r hb fun tk' => ?_)
      cases b with
      | false =>
        simp only [Option.some.injEq] at h2; subst h2
        simp only [Bool.false_eq_true, if_false]
        exact h _ _ _ H k1 r
      | true =>
        simp only [if_true]
        exact evBool_ok F K (e' :: es) d h2 _ _ E (S.kp H k1) fun v h'' tk'' H' k2 r2 => h _ _ _ H' (k1.trans k2) r2
    | Or =>
      refine BoolOp_or (F e d1 h1 A s _ E K S fun v h' tk H k1 r => truth_ok (C := C) r hb fun tk' => ?_)
      cases b with
      | true =>
        simp only [Option.some.injEq] at h2; subst h2
        simp only [if_true]
        exact h _ _ _ H k1 r
      | false =>
        simp only [Bool.false_eq_true, if_false]
        exact evBool_ok F K (e' :: es) d h2 _ _ E (S.kp H k1) fun v h'' tk'' H' k2 r2 => h _ _ _ H' (k1.trans k2) r2

theorem boolTrue_ok {pos : Pos} {op : BoolOp} {whole : Sem Value} {A : Around} (F : TOk C k X sc env φ f) (K : Aok k A) : ∀ (es : List Expr) (d : D) (b : Bool), evBool f op es = some d → truthD d = some b → ∀ (s : Shared) (Q : Bool → Shared → Prop) (E : Value → Shared → Prop), St C X sc env φ s.heap → RetB C s b Q →
    wpAny (model C.prog C.w) A (isTrue (.BoolOp op es pos) env whole) Q E s
  | [], d, b, e, _, _, _, _, _, _ => by simp only [evBool] at e; cases e
  | [e], d, b, h0, hb, s, Q, E, S, h => by
    simp only [evBool] at h0
    cases op with
    | And =>
      refine isTrue_and (F e d b h0 hb A s _ E K S fun h' tk H k1 => ?_)
      cases b with
      | false => simp only [Bool.false_eq_true, if_false]; exact h _ _ H k1
      | true => simp only [if_true]; exact isTrue_and_nil (h _ _ H k1)
    | Or =>
      refine isTrue_or (F e d b h0 hb A s _ E K S fun h' tk H k1 => ?_)
      cases b with
      | true => simp only [if_true]; exact h _ _ H k1
      | false => simp only [Bool.false_eq_true, if_false]; exact isTrue_or_nil (h _ _ H k1)
  | e :: e' :: es, d, b, h0, hb, s, Q, E, S, h => by
    simp only [evBool, Option.bind_eq_some_iff] at h0
    obtain ⟨d1, h1, b1, hb1, h2⟩ := h0
    cases op with
    | And =>
      refine isTrue_and (F e d1 b1 h1 hb1 A s _ E K S fun h' tk H k1 => ?_)
      cases b1 with
      | false =>
        simp only [Option.some.injEq] at h2; subst h2
        rw [hb1] at hb; cases hb
        simp only [Bool.false_eq_true, if_false]
        exact h _ _ H k1
      | true =>
        simp only [if_true]
        exact boolTrue_ok F K (e' :: es) d b h2 hb _ _ E (S.kp H k1) fun h'' tk'' H' k2 => h _ _ H' (k1.trans k2)
    | Or =>
      refine isTrue_or (F e d1 b1 h1 hb1 A s _ E K S fun h' tk H k1 => ?_)
      cases b1 with
      | true =>
        simp only [Option.some.injEq] at h2; subst h2
        rw [hb1] at hb; cases hb
        simp only [if_true]
        exact h _ _ H k1
      | false =>
        simp only [Bool.false_eq_true, if_false]
        exact boolTrue_ok F K (e' :: es) d b h2 hb _ _ E (S.kp H k1) fun h'' tk'' H' k2 => h _ _ H' (k1.trans k2)

theorem evCmp_ok {pos : Pos} {A : Around} (F : FOk C k X sc env φ f) (K : Aok k A) : ∀ (ops : List CmpOp) (es : List Expr) (a d : D) (va : Value), evCmp f a ops es = some d → ∀ (s : Shared) (Q E : Value → Shared → Prop), St C X sc env φ s.heap → Rp X s.heap a va → Ret C X s d Q →
    wpAny (model C.prog C.w) A (compareChain pos va ops (evalEach es env)) Q E s
  | [op], [e], a, d, va, h0, s, Q, E, S, ra, h => by
    simp only [evCmp, Option.bind_eq_some_iff, Option.map_eq_some_iff] at h0
    obtain ⟨b, h1, c, h2, rfl⟩ := h0
    refine chain_last (F e b h1 A s _ E K S fun v h' tk H k1 r => ?_)
    exact cmp_ok (C := C) K (ra.kp k1 S.x.tb) r h2 (h _ _ _ H k1 (by simp only [Rp]))
  | op :: op' :: ops, e :: e' :: es, a, d, va, h0, s, Q, E, S, ra, h => by
    simp only [evCmp, Option.bind_eq_some_iff] at h0
    obtain ⟨b, h1, c, h2, h3⟩ := h0
    refine chain_link (F e b h1 A s _ E K S fun v h' tk H k1 r => ?_)
    refine cmp_ok (C := C) K (ra.kp k1 S.x.tb) r h2 (wpAny_truthy_bool ?_)
    cases c with
    | false =>
      simp only [Bool.false_eq_true, if_false, Option.some.injEq] at h3 ⊢; subst h3
      exact h _ _ _ H k1 (by simp only [Rp])
    | true =>
      simp only [if_true] at h3 ⊢
      exact evCmp_ok F K (op' :: ops) (e' :: es) b d v h3 _ _ E (S.kp H k1) r fun v h'' tk'' H' k2 r2 => h _ _ _ H' (k1.trans k2) r2
  | [], _, _, _, _, h0, _, _, _, _, _, _ => by simp only [evCmp] at h0; cases h0
  | _ :: _, [], _, _, _, h0, _, _, _, _, _, _ => by simp only [evCmp] at h0; cases h0
  | _ :: _ :: _, [_], _, _, _, h0, _, _, _, _, _, _ => by simp only [evCmp] at h0; cases h0
  | [_], _ :: _ :: _, _, _, _, h0, _, _, _, _, _, _ => by simp only [evCmp] at h0; cases h0

theorem cmpTrue_ok {pos : Pos} {A : Around} (F : FOk C k X sc env φ f) (K : Aok k A) : ∀ (ops : List CmpOp) (es : List Expr) (a d : D) (b : Bool) (va : Value), evCmp f a ops es = some d → truthD d = some b → ∀ (s : Shared) (Q : Bool → Shared → Prop) (E : Value → Shared → Prop), St C X sc env φ s.heap → Rp X s.heap a va → RetB C s b Q →
    wpAny (model C.prog C.w) A (testChain pos va ops (evalEach es env)) Q E s
  | [op], [e], a, d, b, va, h0, hb, s, Q, E, S, ra, h => by
    simp only [evCmp, Option.bind_eq_some_iff, Option.map_eq_some_iff] at h0
    obtain ⟨b1, h1, c, h2, rfl⟩ := h0
    simp only [truthD, Option.some.injEq] at hb; subst hb
    refine test_last (F e b1 h1 A s _ E K S fun v h' tk H k1 r => ?_)
    exact cmp_ok (C := C) K (ra.kp k1 S.x.tb) r h2 (wpAny_truthy_bool (h _ _ H k1))
  | op :: op' :: ops, e :: e' :: es, a, d, b, va, h0, hb, s, Q, E, S, ra, h => by
    simp only [evCmp, Option.bind_eq_some_iff] at h0
    obtain ⟨b1, h1, c, h2, h3⟩ := h0
    refine test_link (F e b1 h1 A s _ E K S fun v h' tk H k1 r => ?_)
    refine cmp_ok (C := C) K (ra.kp k1 S.x.tb) r h2 (wpAny_truthy_bool ?_)
    cases c with
    | false =>
      simp only [Bool.false_eq_true, if_false, Option.some.injEq] at h3 ⊢; subst h3
      simp only [truthD, Option.some.injEq] at hb; subst hb
      exact h _ _ H k1
    | true =>
      simp only [if_true] at h3 ⊢
      exact cmpTrue_ok F K (op' :: ops) (e' :: es) b1 d b v h3 hb _ _ E (S.kp H k1) r fun h'' tk'' H' k2 => h _ _ H' (k1.trans k2)
  | [], _, _, _, _, _, h0, _, _, _, _, _, _, _ => by simp only [evCmp] at h0; cases h0
  | _ :: _, [], _, _, _, _, h0, _, _, _, _, _, _, _ => by simp only [evCmp] at h0; cases h0
  | _ :: _ :: _, [_], _, _, _, _, h0, _, _, _, _, _, _, _ => by simp only [evCmp] at h0; cases h0
  | [_], _ :: _ :: _, _, _, _, _, h0, _, _, _, _, _, _, _ => by simp only [evCmp] at h0; cases h0
end
end Mine
namespace Mine
open PySem PySem.Spec PySem.Calls PyProof.Rows PySem.W
open Sem (wp)
set_option linter.unusedVariables false

def rngItems (a : Int) (n : Nat) : List D := (List.range n).map fun i => .int (a + (i : Nat))

/-- an iterator at its i-th item -/
def ItAt (X : Addr → Prop) (h : Heap) (I : Addr) (its : List D) (i : Nat) : Prop :=
  (∃ l vs n, h.IsListIter I l i ∧ ¬ X l ∧ l ≠ I ∧ h.get? l = some (lstO vs n) ∧ RpL X h its vs.toList) ∨
  (∃ a n, its = rngItems a n ∧ IsRangeIter h I (a + (i : Nat)) ((n : Int) - (i : Nat)) 1)

theorem ItAt.kp {X Y : Addr → Prop} {h h' : Heap} {I : Addr} {its : List D} {i : Nat} (x : ItAt X h I its i) (k : Kp Y h h') (s : ∀ b, Y b → X b) (n : ¬ Y I) : ItAt X h' I its i := by
  rcases x with ⟨l, vs, m, ⟨o, ho, r⟩, hx, hn, g, y⟩ | ⟨a, m, e, r⟩
  · exact .inl ⟨l, vs, m, ⟨o, k _ _ n ho, r⟩, hx, hn, k _ _ (fun q => hx (s _ q)) g, y.kp k s⟩
  · exact .inr ⟨a, m, e, k _ _ n r⟩
theorem ItAt.nja {X : Addr → Prop} {h : Heap} {I : Addr} {its : List D} {i : Nat} (x : ItAt X h I its i) : ¬ JA h I := by
  rintro ⟨o, vs, e, d, q⟩
  rcases x with ⟨l, _, _, ⟨o', ho, hc, hd⟩, _⟩ | ⟨a, m, _, r⟩
  · rw [ho] at e; cases e
    rw [hd] at d; cases d
    rcases q with q | ⟨s, t, q⟩
    · rw [hc] at q; cases q
    · simp at q
  · have r' : h.get? I = _ := r
    rw [r'] at e; cases e
    cases d
    rcases q with q | ⟨s, t, q⟩
    · cases q
    · simp [rawInt] at q
section
variable {C : Cfg} {A : Around} {E : Value → Shared → Prop} {s : Shared} {X : Addr → Prop} {k : Nat} {I : Addr} {its : List D} {i : Nat}

theorem ItAt.item {d : D} {Q : Option Value → Shared → Prop} (x : ItAt X s.heap I its i) (xi : X I) (e : its[i]? = some d)
    (h : ∀ v h' tk, Rp X h' d v → ItAt X h' I its (i + 1) → Kp (fun b => b = I) s.heap h' → Q (some v) { s with heap := h', toks := tk }) : wpAny (model C.prog C.w) A (pyNext (.ref I)) Q E s := by
  rcases x with ⟨l, vs, m, hit, hx, hn, g, y⟩ | ⟨a, m, rfl, r⟩
  · obtain ⟨v, hv, rv⟩ := y.get e
    refine wpAny_pyNext_list_item hit ⟨_, g, rfl, m, rfl⟩ (x := v) (by simpa using hv) fun h' hit' hs => ?_
    have kk : Kp (fun b => b = I) s.heap h' := .same hs rfl
    have ss : ∀ b, (fun b => b = I) b → X b := fun b q => q ▸ xi
    exact h v h' s.toks (rv.kp kk ss) (.inl ⟨l, vs, m, hit', hx, hn, kk _ _ hn g, y.kp kk ss⟩) kk
  · have hi : i < m := by
      have := (List.getElem?_eq_some_iff.mp e).1
      simpa [rngItems] using this
    have ed : d = .int (a + (i : Nat)) := by
      simp only [rngItems, List.getElem?_map, List.getElem?_range hi, Option.map_some, Option.some.injEq] at e
      exact e.symm
    subst ed
    refine wpAny_pyNext_range_item r (by omega) fun h' hit' hs => ?_
    refine h _ h' _ (by simp only [Rp]; exact ⟨_, rfl⟩) (.inr ⟨a, m, rfl, ?_⟩) (.same hs rfl)
    have e1 : a + ((i + 1 : Nat) : Int) = a + (i : Int) + 1 := by omega
    have e2 : (m : Int) - ((i + 1 : Nat) : Int) = (m : Int) - (i : Int) - 1 := by omega
    rw [e1, e2]; exact hit'

theorem ItAt.done {Q : Option Value → Shared → Prop} (hA : A.handled = none) (x : ItAt X s.heap I its i) (e : i = its.length)
    (h : ∀ h', Kp (fun b => b = I) s.heap h' → Q none { s with heap := h' }) : wpAny (model C.prog C.w) A (pyNext (.ref I)) Q E s := by
  rcases x with ⟨l, vs, m, hit, hx, hn, g, y⟩ | ⟨a, m, rfl, r⟩
  · have hl := y.length
    refine wpAny_pyNext_list_end hA hit ⟨_, g, rfl, m, rfl⟩ ?_ fun h' hs => h h' fun b o nb eb => hs b o nb eb
    rw [Array.getElem?_eq_none]
    simp only [Array.length_toList] at hl
    omega
  · refine wpAny_pyNext_range_end hA r (by subst e; simp [rngItems]) fun h' hs => h h' fun b o nb eb => hs b o nb eb

theorem ItAt.self {Q : Value → Shared → Prop} (x : ItAt X s.heap I its i) (h : Q (.ref I) s) : wpAny (model C.prog C.w) A (pyIter (.ref I)) Q E s := by
  rcases x with ⟨l, vs, m, hit, _⟩ | ⟨a, m, _, r⟩
  · exact wpAny_pyIter_listiter hit h
  · exact wpAny_pyIter_rangeiter r h

theorem iter_ok {d : D} {v : Value} {Q : Value → Shared → Prop} (x : XOk C X s.heap) (r : Rp X s.heap d v) (e : itemsD d = some its)
    (h : ∀ o, (∀ vs, o.data = .fields vs → True) → ItAt (fun b => X b ∨ b = s.heap.objs.size) (s.heap.push o) s.heap.objs.size its 0 → Q (.ref s.heap.objs.size) { s with heap := s.heap.push o }) :
    wpAny (model C.prog C.w) A (pyIter v) Q E s := by
  have av : ∀ b o, s.heap.get? b = some o → (X b ∨ b = s.heap.objs.size) → X b := fun b o eb q => q.elim id fun q => by
    subst q; rw [get_size] at eb; cases eb
  unfold itemsD at e
  split at e
  · split at e
    · cases e
      obtain ⟨l, vs, n, rfl, hx, g, y⟩ := r.lst_inv
      have hne : l ≠ s.heap.objs.size := Nat.ne_of_lt (Heap.lt_size g)
      refine wpAny_pyIter_list (items := vs) ⟨_, g, rfl, n, rfl⟩ (h _ (fun _ _ => trivial) (.inl ⟨l, vs, n, ⟨_, Heap.get?_push_size _ rfl, rfl, rfl⟩, fun q => q.elim hx hne, hne, Heap.get?_push_of_some _ g, ?_⟩))
      exact (y.av (X' := fun b => X b ∨ b = s.heap.objs.size) av).kp (Y := fun _ => False) (.push _) fun _ q => q.elim
    · cases e
  · split at e
    · rename_i a n hc
      cases e
      obtain ⟨r', b, t, u, t', rfl, hx, g, hb, hb1, hb2⟩ := r.rng_inv
      simp only [Bool.and_eq_true, decide_eq_true_eq, small] at hc
      have sz : Builtin.Range.rangeSize a b 1 = n := by
        rw [rangeSize_one]
        by_cases q : a < b
        · rw [if_pos q]; omega
        · rw [if_neg q]; omega
      refine wpAny_pyIter_range g (small_one (by omega) (by omega) (by omega) (by omega)) (h _ (fun _ _ => trivial) (.inr ⟨a, n, rfl, ?_⟩))
      rw [sz]
      have := Heap.get?_push_size s.heap (o := { cls := .type "range_iterator", data := .fields #[rawInt a, rawInt n, rawInt 1] }) rfl
      simpa using this
    · cases e
  · cases e
end
end Mine
namespace Mine
open PySem PySem.Spec PySem.Calls PyProof.Rows PySem.W
open Sem (wp)
set_option linter.unusedVariables false

theorem compTurn_last {elt : Expr} {gens : List Comprehension} {scope : Scope} {pos : Pos} {depth : Nat} {it acc : Value} {env : Env} {target iter : Expr} {ifs : List Expr}
    (hg : gens[depth]? = some ⟨target, iter, ifs, 0⟩) (hn : gens[depth + 1]? = none) :
    compTurn (.ListComp elt gens scope pos) depth it acc env = (do
      standAt iter.pos
      match ← pyNext it with
      | none => pure (.done .next)
      | some v =>
        letOwnedTupleGo target it v
        assign target env v
        let mut ok := true
        for c in ifs do
          if ok then ok ← isTrue c env (eval c env)
        if ok then do
          let x ← eval elt env
          let _ ← call (.builtin "list.append") [acc, x]
          again (.compLoop (.ListComp elt gens scope pos) depth it acc env)
        else again (.compLoop (.ListComp elt gens scope pos) depth it acc env)) := by
  unfold compTurn
  simp only [hg, hn, show ((0 : Int) != 0) = false from rfl, Bool.false_eq_true, if_false, bind_assoc, pure_bind]
  try rfl
theorem compTurn_more {elt : Expr} {gens : List Comprehension} {scope : Scope} {pos : Pos} {depth : Nat} {it acc : Value} {env : Env} {target iter target' iter' : Expr} {ifs ifs' : List Expr}
    (hg : gens[depth]? = some ⟨target, iter, ifs, 0⟩) (hn : gens[depth + 1]? = some ⟨target', iter', ifs', 0⟩) :
    compTurn (.ListComp elt gens scope pos) depth it acc env = (do
      standAt iter.pos
      match ← pyNext it with
      | none => pure (.done .next)
      | some v =>
        letOwnedTupleGo target it v
        assign target env v
        let mut ok := true
        for c in ifs do
          if ok then ok ← isTrue c env (eval c env)
        if ok then do
          let x ← eval iter' env
          standAt iter'.pos
          let x ← foldedSetIterable iter' env x
          let i ← holding [x] (pyIter x)
          let _ ← runOwn (.compStart (.ListComp elt gens scope pos) (depth + 1) i acc env) env
          again (.compLoop (.ListComp elt gens scope pos) depth it acc env)
        else again (.compLoop (.ListComp elt gens scope pos) depth it acc env)) := by
  unfold compTurn
  simp only [hg, hn, show ((0 : Int) != 0) = false from rfl, Bool.false_eq_true, if_false, bind_assoc, pure_bind]
  try rfl
end Mine
namespace Mine
open PySem PySem.Spec PySem.Calls PyProof.Rows PySem.W
section
variable {prog : Program} {w : World} {A : Around} {E : Value → Shared → Prop} {R : Result → Shared → Prop} {s : Shared}
theorem compStart_at {elt target iter : Expr} {ifs : List Expr} {gens : List Comprehension} {scope : Scope} {pos : Pos} {depth : Nat} {it acc : Value} {env : Env} (hg : gens[depth]? = some ⟨target, iter, ifs, 0⟩)
    (h0 : codeAny (model prog w) A (.compLoop (.ListComp elt gens scope pos) depth it acc env) R s)
    (h : wpAny (model prog w) A (pyIter it) (fun it' s' => codeAny (model prog w) A (.compLoop (.ListComp elt gens scope pos) depth it' acc env) R s')
      (notedBy (model prog w) A env fun x s' => R (.error x) s') s) :
    codeAny (model prog w) A (.compStart (.ListComp elt gens scope pos) depth it acc env) R s := by
  refine codeAny_of_tree ?_
  show wpAny _ _ ((compStart (.ListComp elt gens scope pos) depth it acc env).onRaise (fun x => do noteFrame x env; standAt theWindowsPlace)) _ _ s
  refine wpAny_notedAt ?_
  unfold compStart
  simp only [show clausesOf (.ListComp elt gens scope pos) = gens from rfl, hg, Option.elim_some, show ((0 : Int) != 0) = false from rfl, Bool.false_eq_true, if_false]
  refine wpAny_bind (wpAny_askSetting (wpAny_ite ?_))
  split
  · exact wpAny_pure (And.intro rfl h0)
  · refine wpAny_bind (wpAny_rule ?_)
    show wpAny _ _ (standAt iter.pos >>= _) _ _ s
    exact wpAny_bind (wpAny_standAt (wpAny_bind (wpAny_mono h (fun it' s' h' => wpAny_pure (And.intro rfl h')) fun _ _ x => x)))
end

abbrev testsOf (ifs : List Expr) (b : Bool) (env : Env) : Sem Bool :=
  forIn ifs b fun c r => if r = true then do let ok ← isTrue c env (eval c env); pure (ForInStep.yield ok) else pure (ForInStep.yield r)

section
variable {C : Cfg} {k : Nat} {X : Addr → Prop} {sc : Sc} {env : Env} {φ : Ph} {f : Expr → Option D}
theorem tests_false {A : Around} {E : Value → Shared → Prop} : ∀ (ifs : List Expr) (s : Shared) (Q : Bool → Shared → Prop), Q false s → wpAny (model C.prog C.w) A (testsOf ifs false env) Q E s
  | [], s, Q, h => wpAny_pure h
  | c :: r, s, Q, h => by
    unfold testsOf
    rw [List.forIn_cons]
    simp only [Bool.false_eq_true, if_false]
    exact wpAny_bind (wpAny_pure (tests_false r s Q h))
theorem evIfs_ok {A : Around} (T : TOk C k X sc env φ f) (K : Aok k A) : ∀ (ifs : List Expr) (b : Bool), evIfs f ifs = some b → ∀ (s : Shared) (Q : Bool → Shared → Prop) (E : Value → Shared → Prop), St C X sc env φ s.heap → RetB C s b Q →
    wpAny (model C.prog C.w) A (testsOf ifs true env) Q E s
  | [], b, e, s, Q, E, S, h => by
    simp only [evIfs, Option.some.injEq] at e; subst e
    exact wpAny_pure (h s.heap s.toks S.H .refl)
  | c :: r, b, e, s, Q, E, S, h => by
    simp only [evIfs, Option.bind_eq_some_iff] at e
    obtain ⟨d, h1, b1, h2, h3⟩ := e
    unfold testsOf
    rw [List.forIn_cons]
    simp only [if_true]
    refine wpAny_bind (wpAny_bind (T c d b1 h1 h2 A s _ E K S fun h' tk H k1 => wpAny_pure ?_))
    dsimp only
    cases b1 with
    | false =>
      simp only [Bool.false_eq_true, if_false, Option.some.injEq] at h3; subst h3
      exact tests_false r _ _ (h _ _ H k1)
    | true =>
      simp only [if_true] at h3
      exact evIfs_ok T K r b h3 _ _ E (S.kp H k1) fun h'' tk'' H' k2 => h _ _ H' (k1.trans k2)
end

/-- a comprehension's fixed objects: the iterator I, the list D made, the frame -/
structure Fx (C : Cfg) (X : Addr → Prop) (env : Env) (I Dl : Addr) : Prop where
  xi : X I
  xd : X Dl
  iD : I ≠ Dl
  iL : I ≠ env.locals
  dL : Dl ≠ env.locals
  iB : C.B.get? I = none
  dB : C.B.get? Dl = none
  lB : C.B.get? env.locals = none
  iT : ¬ C.Tb I
  dT : ¬ C.Tb Dl
  ic : ∀ x c, env.cells.lookup x = some c → c ≠ I
  dc : ∀ x c, env.cells.lookup x = some c → c ≠ Dl

structure LI (C : Cfg) (X : Addr → Prop) (sc : Sc) (env : Env) (φ : Ph) (I Dl : Addr) (its : List D) (i : Nat) (la : List D) (ys : Array Value) (h : Heap) : Prop where
  H : HOk C h
  x : XOk C X h
  e : EnvOk C X sc env φ h
  it : ItAt X h I its i
  ns : ∃ m, h.Ns env.locals m
  pl : h.PlainList Dl ys
  ra : RpL X h la ys.toList

section
variable {C : Cfg} {X : Addr → Prop} {sc : Sc} {env : Env} {φ : Ph} {I Dl : Addr} {its : List D} {i : Nat} {la : List D} {ys : Array Value} {h h' : Heap}
theorem LI.st (L : LI C X sc env φ I Dl its i la ys h) : St C X sc env φ h := ⟨L.H, L.x, L.e⟩
theorem Ns_kp {Y : Addr → Prop} {a : Addr} {m : Str → Option Value} (n : h.Ns a m) (k : Kp Y h h') (y : ¬ Y a) : h'.Ns a m := let ⟨o, es, ep, e, r⟩ := n; ⟨o, es, ep, k _ _ y e, r⟩
theorem Ns_ex {a : Addr} {m : Str → Option Value} (n : h.Ns a m) : ∃ o, h.get? a = some o := let ⟨o, _, _, e, _⟩ := n; ⟨o, e⟩
theorem Ns_nja {a : Addr} {m : Str → Option Value} (n : h.Ns a m) : ¬ JA h a := let ⟨o, _, _, e, d, _⟩ := n; nja_data e fun vs q => by rw [d] at q; cases q
theorem LI.tb (L : LI C X sc env φ I Dl its i la ys h) (Z : Fx C X env I Dl) (H : HOk C h') (k : Kp C.Tb h h') : LI C X sc env φ I Dl its i la ys h' :=
  ⟨H, L.x.kp H k, L.e.kp L.x.tb k, L.it.kp k L.x.tb Z.iT, let ⟨m, n⟩ := L.ns; ⟨m, Ns_kp n k L.e.nl⟩, let ⟨n, e⟩ := L.pl; ⟨n, k _ _ Z.dT e⟩, L.ra.kp k L.x.tb⟩
theorem LI.next (L : LI C X sc env φ I Dl its i la ys h) (Z : Fx C X env I Dl) (k : Kp (fun b => b = I) h h') (it : ItAt X h' I its (i + 1)) : LI C X sc env φ I Dl its (i + 1) la ys h' := by
  have ss : ∀ b, (fun b => b = I) b → X b := fun b q => q ▸ Z.xi
  have H := L.H.step k fun b q => by subst q; exact ⟨Z.iB, L.it.nja⟩
  refine ⟨H, L.x.via H k fun b q _ => .inr ?_, L.e.kpY k ss (Ne.symm Z.iL) Z.ic, it, let ⟨m, n⟩ := L.ns; ⟨m, Ns_kp n k (Ne.symm Z.iL)⟩, let ⟨n, e⟩ := L.pl; ⟨n, k _ _ (Ne.symm Z.iD) e⟩, L.ra.kp k ss⟩
  subst q
  rcases it with ⟨_, _, _, ⟨o, e, _⟩, _⟩ | ⟨_, _, _, e⟩
  · exact ⟨o, e⟩
  · exact ⟨_, e⟩
theorem LI.store {x : Str} {d : D} {v : Value} {m : Str → Option Value} (L : LI C X sc env φ I Dl its i la ys h) (Z : Fx C X env I Dl) (hx : sc.lookup x = some .local) (ok : okName x = true) (hn : h.Ns env.locals m)
    (hn' : h'.Ns env.locals (fun y => if y = x then some v else m y)) (hs : Heap.SameBut env.locals h h') (r : Rp X h d v) : LI C X sc env (setA x d φ) I Dl its i la ys h' := by
  have k : Kp (fun b => b = env.locals) h h' := .same hs rfl
  have ss : ∀ b, (fun b => b = env.locals) b → X b := fun b q => q ▸ L.e.xl
  have H := L.H.same hs Z.lB (Ns_nja hn)
  exact ⟨H, L.x.via H k fun b q _ => .inr (q ▸ Ns_ex hn'), L.e.store hx ok hn hn' hs r, L.it.kp k ss Z.iL, ⟨_, hn'⟩, let ⟨n, e⟩ := L.pl; ⟨n, k _ _ Z.dL e⟩, L.ra.kp k ss⟩
theorem LI.forget {x : Str} {d : D} (L : LI C X sc env (setA x d φ) I Dl its i la ys h) (n : φ.lookup x = none) : LI C X sc env φ I Dl its i la ys h := ⟨L.H, L.x, L.e.forget n, L.it, L.ns, L.pl, L.ra⟩
theorem LI.app {d : D} {v : Value} (L : LI C X sc env φ I Dl its i la ys h) (Z : Fx C X env I Dl) (r : Rp X h d v) (pl : h'.PlainList Dl (ys.push v)) (hs : Heap.SameBut Dl h h') : LI C X sc env φ I Dl its i (la ++ [d]) (ys.push v) h' := by
  have k : Kp (fun b => b = Dl) h h' := .same hs rfl
  have ss : ∀ b, (fun b => b = Dl) b → X b := fun b q => q ▸ Z.xd
  obtain ⟨n0, e0⟩ := L.pl
  have H := L.H.same hs Z.dB (nja_data e0 fun vs q => by cases q)
  refine ⟨H, L.x.via H k fun b q _ => .inr ?_, L.e.kpY k ss (Ne.symm Z.dL) Z.dc, L.it.kp k ss Z.iD, let ⟨m, n⟩ := L.ns; ⟨m, Ns_kp n k (Ne.symm Z.dL)⟩, pl, ?_⟩
  · subst q; obtain ⟨n, e⟩ := pl; exact ⟨_, e⟩
  · rw [Array.toList_push]; exact (L.ra.kp k ss).append (.one (r.kp k ss))
end
end Mine
namespace Mine
open PySem PySem.Spec PySem.Calls PyProof.Rows PySem.W
set_option linter.unusedVariables false

def turnOut (f : Ph → Expr → Option D) (elt : Expr) (gs : List Comprehension) (ifs : List Expr) (φ : Ph) : Option (List D) :=
  (evIfs (f φ) ifs).bind fun ok => if ok then
    (match gs with
      | [] => (f φ elt).map fun r => [r]
      | g' :: gs' => (f φ g'.iter).bind fun c => (itemsD c).bind fun its' => evComp f elt (g' :: gs') its' φ)
  else some []
theorem evComp_nil {f : Ph → Expr → Option D} {elt it : Expr} {x : Str} {px : Pos} {ifs : List Expr} {gs : List Comprehension} {φ : Ph} : evComp f elt (⟨.Name x px, it, ifs, 0⟩ :: gs) [] φ = some [] := by
  simp [evComp]
theorem evComp_cons {f : Ph → Expr → Option D} {elt it : Expr} {x : Str} {px : Pos} {ifs : List Expr} {gs : List Comprehension} {d : D} {r : List D} {φ : Ph} :
    evComp f elt (⟨.Name x px, it, ifs, 0⟩ :: gs) (d :: r) φ = catO (turnOut f elt gs ifs (setA x d φ)) (evComp f elt (⟨.Name x px, it, ifs, 0⟩ :: gs) r φ) := by
  conv => lhs; unfold evComp
  conv => rhs; rhs; unfold evComp
  rfl
theorem catO_some {a b : Option (List D)} {o : List D} (h : catO a b = some o) : ∃ x y, a = some x ∧ b = some y ∧ o = x ++ y := by
  unfold catO at h
  split at h
  · cases h; exact ⟨_, _, rfl, rfl, rfl⟩
  · cases h

theorem targetsOk_cons {names : Sc} {seen : List Str} {g : Comprehension} {gs : List Comprehension} (h : targetsOk names seen (g :: gs) = true) :
    ∃ x px it ifs, g = ⟨.Name x px, it, ifs, 0⟩ ∧ names.lookup x = some .local ∧ okName x = true ∧ x ∉ seen ∧ targetsOk names (x :: seen) gs = true := by
  obtain ⟨t, it, ifs, a⟩ := g
  cases t <;> try (simp only [targetsOk] at h; cases h; done)
  rename_i x px
  by_cases ha : a = 0
  · subst ha
    simp only [targetsOk, Bool.and_eq_true, beq_iff_eq, Bool.not_eq_true', List.contains_eq_mem, decide_eq_false_iff_not] at h
    refine ⟨x, px, it, ifs, rfl, h.1.1.1.1, ?_, h.1.2, h.2⟩
    simp only [okName, Bool.and_eq_true, Bool.not_eq_true']
    exact ⟨h.1.1.1.2, h.1.1.2⟩
  · have : targetsOk names seen (⟨.Name x px, it, ifs, a⟩ :: gs) = false := by
      unfold targetsOk
      split
      · rename_i heq; cases heq
      · rename_i heq; injection heq with e1 _; injection e1 with _ _ _ e4; exact absurd e4 ha
      · rfl
    rw [this] at h; cases h

theorem ItAt.av {X X' : Addr → Prop} {h : Heap} {I : Addr} {its : List D} {i : Nat} (x : ItAt X h I its i) (s : ∀ b o, h.get? b = some o → X' b → X b) : ItAt X' h I its i := by
  rcases x with ⟨l, vs, n, a, hx, hn, g, y⟩ | z
  · exact .inl ⟨l, vs, n, a, fun q => hx (s _ _ g q), hn, g, y.av s⟩
  · exact .inr z
theorem ItAt.shr {X X' : Addr → Prop} {h : Heap} {I : Addr} {its : List D} {i : Nat} (x : ItAt X' h I its i) (s : ∀ b, X b → X' b) : ItAt X h I its i := x.av fun b _ _ q => s b q

/-- what the loop leaves -/
abbrev LoopR (C : Cfg) (X : Addr → Prop) (sc : Sc) (env : Env) (φ : Ph) (I Dl : Addr) (la : List D) (s : Shared) (R : Result → Shared → Prop) : Prop :=
  ∀ h' tk ys', HOk C h' → Kp (fun b => C.Tb b ∨ b = env.locals ∨ b = Dl ∨ b = I) s.heap h' → EnvOk C X sc env φ h' → (∃ m, h'.Ns env.locals m) → h'.PlainList Dl ys' → RpL X h' la ys'.toList → R (.ok .next) { s with heap := h', toks := tk }
theorem EnvOk.shr {C : Cfg} {X X' : Addr → Prop} {sc : Sc} {env : Env} {φ : Ph} {h : Heap} (x : EnvOk C X' sc env φ h) (s : ∀ b, X b → X' b) (xl : X env.locals) (xc : ∀ y c, env.cells.lookup y = some c → X c) : EnvOk C X sc env φ h :=
  ⟨x.fn, x.gl, x.bl, x.nl, xl, x.nc, xc, x.kd, x.cl, fun y d e => by
    obtain ⟨h1, h2, v, r, q⟩ := x.ld y d e
    exact ⟨h1, h2, v, r.av fun b _ _ q => s b q, q⟩⟩

section
variable {C : Cfg} {k : Nat} {sc : Sc} {env : Env} {A : Around} {elt : Expr} {gens : List Comprehension} {scope : Scope} {pos : Pos} {Dl : Addr} {f : Ph → Expr → Option D}

theorem compLoop_ok (K : Aok k A) (F : ∀ X φ, FOk C k X sc env φ (f φ)) (T : ∀ X φ, TOk C k X sc env φ (f φ))
    (hset : ∀ φ e d, f φ e = some d → ∀ x, foldedSetIterable e env x = pure x) :
    ∀ (suf : List Comprehension) (j : Nat), gens.drop j = suf → ∀ (seen : List Str), targetsOk sc seen suf = true → ∀ (X : Addr → Prop) (I : Addr) (its : List D), Fx C X env I Dl →
    ∀ (rest : List D) (i : Nat) (φ : Ph) (out : List D), (∀ m, its[i + m]? = rest[m]?) → i + rest.length = its.length → (∀ y, φ.lookup y ≠ none → y ∈ seen ∨ sc.lookup y ≠ some .local) → evComp f elt suf rest φ = some out →
    ∀ (s : Shared) (R : Result → Shared → Prop) (la : List D) (ys : Array Value), LI C X sc env φ I Dl its i la ys s.heap → la.length + out.length ≤ 1000 → LoopR C X sc env φ I Dl (la ++ out) s R →
      codeAny (model C.prog C.w) A (.compLoop (.ListComp elt gens scope pos) j (.ref I) (.ref Dl) env) R s := by
  intro suf
  induction suf with
  | nil => intro j _ seen _ X I its _ rest i φ out _ _ _ ev; simp [evComp] at ev
  | cons g gs ihs =>
    intro j hj seen htg X I its Z rest
    obtain ⟨x, px, it, ifs, rfl, hx, hok, hsn, htg'⟩ := targetsOk_cons htg
    have hg : gens[j]? = some ⟨.Name x px, it, ifs, 0⟩ := by
      have := congrArg List.head? hj
      simpa [List.head?_drop] using this
    have hdr : gens.drop (j + 1) = gs := by
      have := congrArg List.tail hj
      simpa [List.tail_drop] using this
    induction rest with
    | nil =>
      intro i φ out hits hlen hφ ev s R la ys L hsz hR
      rw [evComp_nil] at ev; cases ev
      refine codeAny_of_tree ?_
      show wpAny _ A ((compTurn (.ListComp elt gens scope pos) j (.ref I) (.ref Dl) env).onRaise (fun x => do noteFrame x env; theTreesLotGoes x)) _ _ s
      refine wpAny_noted ?_
      have fin : wpAny (model C.prog C.w) A (pyNext (.ref I)) (fun r s₁ => match r with
          | none => R (.ok .next) s₁
          | some _ => False) (notedBy (model C.prog C.w) A env fun e s' => R (.error e) s') s := by
        refine L.it.done (C := C) K.handled (by simpa using hlen) fun h' k1 => ?_
        refine hR h' s.toks ys (L.H.step k1 fun b q => by subst q; exact ⟨Z.iB, L.it.nja⟩) (k1.mono fun b q => .inr (.inr (.inr q))) (L.e.kpY k1 (fun b q => q ▸ Z.xi) (Ne.symm Z.iL) Z.ic) ?_ ?_ ?_
        · obtain ⟨m, n⟩ := L.ns; exact ⟨m, Ns_kp n k1 (Ne.symm Z.iL)⟩
        · obtain ⟨n, e⟩ := L.pl; exact ⟨n, k1 _ _ (Ne.symm Z.iD) e⟩
        · rw [List.append_nil]; exact L.ra.kp k1 fun b q => q ▸ Z.xi
      cases hn : gens[j + 1]? with
      | none =>
        rw [compTurn_last hg hn]
        refine wpAny_bind (wpAny_standAt (wpAny_bind (wpAny_mono fin (fun r s₁ h₁ => ?_) fun _ _ h' => h')))
        cases r with
        | none => exact wpAny_pure h₁
        | some v => exact h₁.elim
      | some g' =>
        have : gs ≠ [] := fun q => by
          rw [← hdr] at q
          have := List.drop_eq_nil_iff.mp q
          rw [List.getElem?_eq_none this] at hn; cases hn
        obtain ⟨g2, gs2, rfl⟩ := List.exists_cons_of_ne_nil this
        obtain ⟨x2, px2, it2, ifs2, rfl, _⟩ := targetsOk_cons htg'
        have hn2 : gens[j + 1]? = some ⟨.Name x2 px2, it2, ifs2, 0⟩ := by
          have := congrArg List.head? hdr
          simpa [List.head?_drop] using this
        rw [compTurn_more hg hn2]
        refine wpAny_bind (wpAny_standAt (wpAny_bind (wpAny_mono fin (fun r s₁ h₁ => ?_) fun _ _ h' => h')))
        cases r with
        | none => exact wpAny_pure h₁
        | some v => exact h₁.elim
    | cons d rest ihr =>
      intro i φ out hits hlen hφ ev s R la ys L hsz hR
      rw [evComp_cons] at ev
      obtain ⟨o1, o2, e1, e2, rfl⟩ := catO_some ev
      have hfx : φ.lookup x = none := by
        cases q : φ.lookup x with
        | none => rfl
        | some _ => exact (hφ x (by rw [q]; simp)).elim (fun h => absurd h hsn) fun h => absurd hx h
      have hsz1 : la.length + o1.length ≤ 1000 := by rw [List.length_append] at hsz; omega
      -- what follows the turn
      have nextT : ∀ (h' : Heap) (tk : Nat) (ys' : Array Value), LI C X sc env (setA x d φ) I Dl its (i + 1) (la ++ o1) ys' h' → Kp (fun b => C.Tb b ∨ b = env.locals ∨ b = Dl ∨ b = I) s.heap h' →
          codeAny (model C.prog C.w) A (.compLoop (.ListComp elt gens scope pos) j (.ref I) (.ref Dl) env) R { s with heap := h', toks := tk } := by
        intro h' tk ys' L' k'
        refine ihr (i + 1) φ o2 (fun m => ?_) (by simp only [List.length_cons] at hlen; omega) hφ e2 _ R (la ++ o1) ys' (L'.forget hfx) (by simp only [List.length_append] at hsz ⊢; omega) ?_
        · have := hits (m + 1)
          rw [List.getElem?_cons_succ] at this
          rw [← this]; congr 1; omega
        · intro h'' tk'' ys'' H'' k'' e'' n'' p'' r''
          exact hR h'' tk'' ys'' H'' (k'.trans k'') e'' n'' p'' (by rw [← List.append_assoc]; exact r'')
      refine codeAny_of_tree ?_
      show wpAny _ A ((compTurn (.ListComp elt gens scope pos) j (.ref I) (.ref Dl) env).onRaise (fun x => do noteFrame x env; theTreesLotGoes x)) _ _ s
      refine wpAny_noted ?_
      -- the head of the turn: the item, the store, the tests
      have head : ∀ (t : Bool → Sem Fin) (Q : Fin → Shared → Prop) (E : Value → Shared → Prop), (∀ (h' : Heap) (tk : Nat) (ok : Bool), evIfs (f (setA x d φ)) ifs = some ok → LI C X sc env (setA x d φ) I Dl its (i + 1) la ys h' → Kp (fun b => C.Tb b ∨ b = env.locals ∨ b = Dl ∨ b = I) s.heap h' →
          wpAny (model C.prog C.w) A (t ok) Q E { s with heap := h', toks := tk }) →
          wpAny (model C.prog C.w) A (do
            standAt it.pos
            match ← pyNext (.ref I) with
            | none => pure (.done .next)
            | some v =>
              letOwnedTupleGo (.Name x px) (.ref I) v
              assign (.Name x px) env v
              let ok ← testsOf ifs true env
              t ok) Q E s := by
        intro t Q E ht
        refine wpAny_bind (wpAny_standAt (wpAny_bind (L.it.item (C := C) Z.xi (by have := hits 0; simpa using this) fun v h1 tk1 r1 it1 k1 => ?_)))
        have L1 := L.next Z k1 it1
        refine wpAny_bind (wpAny_of_eq (a := ()) rfl ?_)
        obtain ⟨m, hn1⟩ := L1.ns
        have hkl : env.kindOf x = some .local := by
          rcases L.e.kd x with q | ⟨q, _⟩
          · rw [q]; exact hx
          · rw [hx] at q; cases q
        refine wpAny_bind (wpAny_assign_Name (wpAny_storeName_local hkl hn1 (fun h2 hn2 hs2 => ?_) (by rw [L.e.fn]; rfl)))
        have L2 := L1.store Z hx hok hn1 hn2 hs2 r1
        have k2 : Kp (fun b => C.Tb b ∨ b = env.locals ∨ b = Dl ∨ b = I) s.heap h2 := (k1.mono fun b q => .inr (.inr (.inr q))).trans (.same hs2 (.inr (.inl rfl)))
        cases ei : evIfs (f (setA x d φ)) ifs with
        | none => simp [turnOut, ei] at e1
        | some ok =>
          refine wpAny_bind (evIfs_ok (T X (setA x d φ)) K ifs ok ei _ _ _ L2.st fun h3 tk3 H3 k3 => ?_)
          exact ht h3 tk3 ok ei (L2.tb Z H3 k3) (k2.trans (k3.mono fun b q => .inl q))
      cases hgs : gs with
      | nil =>
        subst hgs
        have hn : gens[j + 1]? = none := by
          have := List.drop_eq_nil_iff.mp hdr
          exact List.getElem?_eq_none this
        rw [compTurn_last hg hn]
        refine head _ _ _ fun h3 tk3 ok ei L3 k3 => ?_
        simp only [turnOut, ei, Option.bind_some] at e1
        cases ok with
        | false =>
          simp only [Bool.false_eq_true, if_false, Option.some.injEq] at e1 ⊢; subst e1
          exact wpAny_pure ⟨rfl, nextT h3 tk3 ys (by rw [List.append_nil]; exact L3) k3⟩
        | true =>
          simp only [if_true, Option.map_eq_some_iff] at e1 ⊢
          obtain ⟨r, er, rfl⟩ := e1
          refine wpAny_bind (F X (setA x d φ) elt r er A _ _ _ K L3.st fun v h4 tk4 H4 k4 r4 => ?_)
          have L4 := L3.tb Z H4 k4
          have hl : ys.size ≤ sizeLine := by
            have := L4.ra.length
            simp only [Array.length_toList] at this
            rw [sizeLine_eq]; omega
          refine wpAny_bind (wpAny_list_append_plain (hsz := hl) L4.pl fun h5 pl5 hs5 => ?_)
          refine wpAny_pure ⟨rfl, nextT h5 tk4 _ (L4.app Z r4 pl5 hs5) ?_⟩
          exact (k3.trans (k4.mono fun b q => .inl q)).trans (.same hs5 (.inr (.inr (.inl rfl))))
      | cons g2 gs2 =>
        subst hgs
        obtain ⟨x2, px2, it2, ifs2, rfl, _⟩ := targetsOk_cons htg'
        have hn2 : gens[j + 1]? = some ⟨.Name x2 px2, it2, ifs2, 0⟩ := by
          have := congrArg List.head? hdr
          simpa [List.head?_drop] using this
        rw [compTurn_more hg hn2]
        refine head _ _ _ fun h3 tk3 ok ei L3 k3 => ?_
        simp only [turnOut, ei, Option.bind_some] at e1
        cases ok with
        | false =>
          simp only [Bool.false_eq_true, if_false, Option.some.injEq] at e1 ⊢; subst e1
          exact wpAny_pure ⟨rfl, nextT h3 tk3 ys (by rw [List.append_nil]; exact L3) k3⟩
        | true =>
          simp only [if_true, Option.bind_eq_some_iff] at e1 ⊢
          obtain ⟨c, ec, its2, ei2, ev2⟩ := e1
          refine wpAny_bind (F X (setA x d φ) it2 c ec A _ _ _ K L3.st fun v h4 tk4 H4 k4 r4 => ?_)
          have L4 := L3.tb Z H4 k4
          refine wpAny_bind (wpAny_standAt (wpAny_bind (wpAny_of_eq (hset _ _ _ ec v) (wpAny_bind (wpAny_holding ?_)))))
          refine iter_ok (C := C) L4.x r4 ei2 fun o _ hit => ?_
          -- the inner loop: its iterator is new
          have fr := get_size h4
          have av : ∀ b o, h4.get? b = some o → (X b ∨ b = h4.objs.size) → X b := fun b ob eb q => q.elim id fun q => by subst q; rw [fr] at eb; cases eb
          have kp5 : Kp (fun _ => False) h4 (h4.push o) := .push o
          have Z2 : Fx C (fun b => X b ∨ b = h4.objs.size) env h4.objs.size Dl := by
            have neX : ∀ b, X b → b ≠ h4.objs.size := fun b hb q => by
              obtain ⟨ob, eb⟩ := L4.x.ex b hb
              rw [q, fr] at eb; cases eb
            exact ⟨.inr rfl, .inl Z.xd, Ne.symm (neX _ Z.xd), Ne.symm (neX _ L4.e.xl), Z.dL, L4.H.baseNone fr, Z.dB, Z.lB, fun q => neX _ (L4.x.tb _ q) rfl, Z.dT, fun y c hc => neX _ (L4.e.xc y c hc), Z.dc⟩
          have L5 : LI C (fun b => X b ∨ b = h4.objs.size) sc env (setA x d φ) h4.objs.size Dl its2 0 la ys (h4.push o) := by
            refine ⟨L4.H.push o, ⟨fun b q => .inl (L4.x.tb b q), fun b q => ?_⟩, (L4.e.av av fun b q => .inl q).kpY kp5 (fun _ q => q.elim) (fun q => q) (fun _ _ _ q => q), hit, ?_, ?_, (L4.ra.av av).kp kp5 fun _ q => q.elim⟩
            · rcases q with q | q
              · obtain ⟨ob, eb⟩ := L4.x.ex b q
                exact ⟨ob, Heap.get?_push_of_some _ eb⟩
              · subst q
                rcases hit with ⟨_, _, _, ⟨o', e', _⟩, _⟩ | ⟨_, _, _, e'⟩
                · exact ⟨o', e'⟩
                · exact ⟨_, e'⟩
            · obtain ⟨m, n⟩ := L4.ns; exact ⟨m, n.push o⟩
            · obtain ⟨n, e⟩ := L4.pl; exact ⟨n, Heap.get?_push_of_some _ e⟩
          refine wpAny_bind (wpAny_runOwn ?_)
          show codeAny (model C.prog C.w) A _ _ _
          have loop := ihs (j + 1) hdr _ htg' _ _ its2 Z2 its2 0 (setA x d φ) o1 (fun m => by rw [Nat.zero_add]) (Nat.zero_add _) (fun y hy => by
            rw [lookup_setA] at hy
            by_cases q : y = x
            · exact .inl (by rw [q]; exact List.mem_cons_self)
            · rw [if_neg q] at hy; exact (hφ y hy).imp (fun z => List.mem_cons_of_mem _ z) id) ev2 { s with heap := h4.push o, toks := tk4 } (fun r s' => match r with
              | .ok _ => wpAny (model C.prog C.w) A (again (.compLoop (.ListComp elt gens scope pos) j (.ref I) (.ref Dl) env)) (fun fin s' => match fin with
                  | .done f => R (.ok f) s'
                  | .again c' => c'.quiet = true ∧ codeAny (model C.prog C.w) A c' R s') (notedBy (model C.prog C.w) A env fun e s' => R (.error e) s') s'
              | .error e => cameBackBy (model C.prog C.w) A env (notedBy (model C.prog C.w) A env fun e s' => R (.error e) s') e s') la ys L5 hsz1 (by
            intro h6 tk6 ys6 H6 k6 e6 n6 p6 r6
            refine wpAny_pure ⟨rfl, nextT h6 tk6 ys6 ?_ ?_⟩
            · have k46 : Kp (fun b => C.Tb b ∨ b = env.locals ∨ b = Dl ∨ b = h4.objs.size) h4 h6 := (kp5.mono fun _ q => q.elim).trans k6
              refine ⟨H6, L4.x.via H6 k46 ?_, e6.shr (fun b q => .inl q) L4.e.xl L4.e.xc, ?_, n6, p6, r6.av fun b _ _ q => .inl q⟩
              · rintro b (q | q | q | q) hb
                · exact .inl q
                · subst q; obtain ⟨m, n⟩ := n6; exact .inr (Ns_ex n)
                · subst q; obtain ⟨n, e⟩ := p6; exact .inr ⟨_, e⟩
                · subst q; obtain ⟨ob, eb⟩ := L4.x.ex _ hb; rw [fr] at eb; cases eb
              · have it4 := L4.it
                have itx := (ItAt.av it4 av).kp (Y := fun b => C.Tb b ∨ b = env.locals ∨ b = Dl ∨ b = h4.objs.size) k46 ?_ ?_
                · exact itx.shr fun b q => .inl q
                · rintro b (q | q | q | q)
                  · exact .inl (L4.x.tb b q)
                  · exact .inl (q ▸ L4.e.xl)
                  · exact .inl (q ▸ Z.xd)
                  · exact .inr q
                · rintro (q | q | q | q)
                  · exact Z.iT q
                  · exact Z.iL q
                  · exact Z.iD q
                  · obtain ⟨ob, eb⟩ := L4.x.ex _ Z.xi
                    rw [q, fr] at eb; cases eb
            · refine (k3.trans (k4.mono fun b q => .inl q)).trans fun b o nb eb => ?_
              refine k6 b o ?_ (Heap.get?_push_of_some _ eb)
              rintro (q | q | q | q)
              · exact nb (.inl q)
              · exact nb (.inr (.inl q))
              · exact nb (.inr (.inr (.inl q)))
              · rw [q] at eb
                rw [show ({ s with heap := h4, toks := tk4 } : Shared).heap.objs.size = h4.objs.size from rfl, fr] at eb; cases eb)
          exact compStart_at hn2 loop (hit.self (C := C) loop)
end
end Mine
namespace Mine
open PySem PySem.Spec PySem.Calls PyProof.Rows PySem.W
set_option linter.unusedVariables false

def clOf (env : Env) : Sc → List (Str × Addr) → List (Str × Addr)
  | [], acc => acc
  | (n, k) :: r, acc => if k == .free then clOf env r ((n, (env.cells.lookup n).getD 0) :: acc) else clOf env r acc
theorem closure_eq {scope : Scope} {env : Env} (h : ∀ p ∈ scope.names, p.2 = .free → ∃ c, env.cells.lookup p.1 = some c) : closureFor scope env = pure (clOf env scope.names []) := by
  unfold closureFor
  suffices ∀ (names : Sc) (acc : List (Str × Addr)), (∀ p ∈ names, p.2 = .free → ∃ c, env.cells.lookup p.1 = some c) →
      (forIn names acc fun (x : Str × NameKind) (cs : List (Str × Addr)) => (if x.2 == .free then (do let a ← cellOf env x.1; pure (ForInStep.yield ((x.1, a) :: cs))) else pure (ForInStep.yield cs) : Sem _)) = pure (clOf env names acc) by
    have := this scope.names [] h
    simp only [pure_bind] at this ⊢
    have e := congrArg (fun t => t >>= fun r => (pure r : Sem (List (Str × Addr)))) this
    simpa using e
  intro names
  induction names with
  | nil => intro acc _; rfl
  | cons p r ih =>
    intro acc hp
    obtain ⟨n, k⟩ := p
    rw [List.forIn_cons]
    unfold clOf
    by_cases hk : k = .free
    · subst hk
      obtain ⟨c, hc⟩ := hp (n, .free) List.mem_cons_self rfl
      simp only [beq_self_eq_true, if_true, cellOf, hc, pure_bind, Option.getD_some]
      exact ih _ fun q hq => hp q (List.mem_cons_of_mem _ hq)
    · have : (k == NameKind.free) = false := by simpa using hk
      simp only [this, Bool.false_eq_true, if_false, pure_bind]
      exact ih _ fun q hq => hp q (List.mem_cons_of_mem _ hq)
theorem clOf_sound {env : Env} : ∀ (names : Sc) (acc : List (Str × Addr)), (∀ p ∈ names, p.2 = .free → ∃ c, env.cells.lookup p.1 = some c) → (∀ y c, acc.lookup y = some c → env.cells.lookup y = some c) → ∀ y c, (clOf env names acc).lookup y = some c → env.cells.lookup y = some c
  | [], acc, _, h, y, c, e => h y c e
  | (n, k) :: r, acc, hp, h, y, c, e => by
    unfold clOf at e
    have hr : ∀ p ∈ r, p.2 = .free → ∃ c, env.cells.lookup p.1 = some c := fun q hq => hp q (List.mem_cons_of_mem _ hq)
    split at e
    · rename_i hk
      obtain ⟨c', hc'⟩ := hp (n, k) List.mem_cons_self (by simpa using hk)
      refine clOf_sound r _ hr (fun z d ez => ?_) y c e
      rw [List.lookup_cons] at ez
      split at ez
      · rename_i hz
        cases ez
        have : z = n := by simpa using hz
        subst this
        rw [hc']; rfl
      · exact h z d ez
    · exact clOf_sound r _ hr h y c e
theorem clOf_has {env : Env} : ∀ (names : Sc) (acc : List (Str × Addr)) (x : Str), ((x, NameKind.free) ∈ names ∨ (∃ c, acc.lookup x = some c)) → ∃ c, (clOf env names acc).lookup x = some c
  | [], acc, x, h => h.elim (fun q => by cases q) id
  | (n, k) :: r, acc, x, h => by
    unfold clOf
    split
    · rename_i hk
      refine clOf_has r _ x ?_
      by_cases q : x = n
      · subst q; exact .inr ⟨_, by simp [List.lookup_cons]; rfl⟩
      · refine h.imp (fun z => ?_) fun ⟨c, hc⟩ => ⟨c, by rw [List.lookup_cons, beq_eq_false_iff_ne.mpr q]; exact hc⟩
        rcases List.mem_cons.mp z with e | e
        · exact absurd (Prod.mk.inj e).1 q
        · exact e
    · rename_i hk
      refine clOf_has r _ x (h.imp (fun z => ?_) id)
      rcases List.mem_cons.mp z with e | e
      · have := (Prod.mk.inj e).2
        subst this
        simp at hk
      · exact e

theorem lookup_relabel {env : Env} {scope : Scope} (x : Str) : (relabel scope env).names.lookup x = scope.names.lookup x ∨ (scope.names.lookup x = some .free ∧ (relabel scope env).names.lookup x = some .cell) := by
  unfold relabel
  dsimp only
  generalize scope.names = names
  induction names with
  | nil => exact .inl rfl
  | cons p r ih =>
    obtain ⟨n, k⟩ := p
    rw [List.map_cons]
    by_cases hx : x = n
    · subst hx
      by_cases hc : (k == NameKind.free && env.scope.kind == .function && env.kindOf x == some .cell) = true
      · rw [if_pos hc, List.lookup_cons, List.lookup_cons, beq_self_eq_true]
        simp only [Bool.and_eq_true, beq_iff_eq] at hc
        exact .inr ⟨by rw [hc.1.1], rfl⟩
      · rw [if_neg hc, List.lookup_cons, List.lookup_cons, beq_self_eq_true]
        exact .inl rfl
    · have hb := beq_eq_false_iff_ne.mpr hx
      by_cases hc : (k == NameKind.free && env.scope.kind == .function && env.kindOf n == some .cell) = true
      · rw [if_pos hc, List.lookup_cons, List.lookup_cons, hb]; exact ih
      · rw [if_neg hc, List.lookup_cons, List.lookup_cons, hb]; exact ih

theorem lookup_keepFree {names : Sc} {x : Str} : ∀ {φ : Ph} {d : D}, (keepFree names φ).lookup x = some d → names.lookup x = some .free ∧ φ.lookup x = some d
  | [], d, e => by simp [keepFree] at e
  | (y, c) :: r, d, e => by
    unfold keepFree at e
    rw [List.filter_cons] at e
    split at e
    · rename_i hp
      rw [List.lookup_cons] at e
      split at e
      · rename_i hx
        cases e
        have : x = y := by simpa using hx
        subst this
        exact ⟨by simpa using hp, by rw [List.lookup_cons, beq_self_eq_true]⟩
      · rename_i hx
        obtain ⟨h1, h2⟩ := lookup_keepFree (φ := r) e
        exact ⟨h1, by rw [List.lookup_cons, hx]; exact h2⟩
    · rename_i hp
      obtain ⟨h1, h2⟩ := lookup_keepFree (φ := r) e
      refine ⟨h1, ?_⟩
      rw [List.lookup_cons]
      split
      · rename_i hx
        have : x = y := by simpa using hx
        subst this
        exact absurd (by simpa using h1) hp
      · exact h2

theorem scOk_free {sc names : Sc} (h : scOk sc names = true) : ∀ p ∈ names, p.2 = .free → (sc.lookup p.1 = some .cell ∨ sc.lookup p.1 = some .free) ∧ names.lookup p.1 = some .free := fun p hp hk => by
  have := List.all_eq_true.mp h p hp
  rw [hk] at this
  simpa using this
theorem scOk_local {sc names : Sc} (h : scOk sc names = true) : ∀ p ∈ names, p.2 = .local → names.lookup p.1 = some .local := fun p hp hk => by
  have := List.all_eq_true.mp h p hp
  rw [hk] at this
  simpa using this
theorem scOk_cell {sc names : Sc} (h : scOk sc names = true) : ∀ p ∈ names, p.2 ≠ .cell := fun p hp hk => by
  have := List.all_eq_true.mp h p hp
  rw [hk] at this
  simp at this
theorem mem_lookup {names : Sc} {x : Str} {k : NameKind} (h : names.lookup x = some k) : (x, k) ∈ names := mem_of_lookup h
end Mine
namespace Mine
open PySem PySem.Spec PySem.Calls PyProof.Rows PySem.W
set_option linter.unusedVariables false

section
variable {C : Cfg} {k : Nat} {sc : Sc} {env : Env} {φ : Ph} {A : Around} {X : Addr → Prop} {E : Value → Shared → Prop} {s : Shared} {elt : Expr} {scope : Scope} {pos : Pos} {f : Ph → Expr → Option D}

theorem neN' {a b : Nat} (h : ¬ (a = b)) : @Ne Addr a b := h
theorem compBlock_ok {g : Comprehension} {gs : List Comprehension} {its l : List D} {c : D} {v : Value} {RR : Value → Addr → Result → Shared → Prop}
    (K : Aok k A) (S : St C X sc env φ s.heap) (hsc : scOk sc scope.names = true) (htg : targetsOk scope.names [] (g :: gs) = true) (hkind : scope.kind = .function)
    (F : ∀ X env φ, FOk C k X scope.names env φ (f φ)) (T : ∀ X env φ, TOk C k X scope.names env φ (f φ)) (hset : ∀ φ e d, f φ e = some d → ∀ env x, foldedSetIterable e env x = pure x)
    (rv : Rp X s.heap c v) (hi : itemsD c = some its) (hl : evComp f elt (g :: gs) its (keepFree scope.names φ) = some l) (hsz : l.length ≤ 1000)
    (hR : ∀ Dl Cc h' tk m', HOk C h' → Kp C.Tb s.heap h' → Rp (fun b => X b ∨ b = Cc) h' (.lst l) (.ref Dl) → h'.Ns Cc m' → s.heap.get? Cc = none → Dl ≠ Cc → s.heap.get? Dl = none → h'.objs.size > Cc → RR (.ref Dl) Cc (.ok .next) { s with heap := h', toks := tk }) :
    wpAny (model C.prog C.w) A (pyIter v) (fun it s₂ => wpAny (model C.prog C.w) A (newList []) (fun acc s₃ => wpAny (model C.prog C.w) A (newFunctionEnv scope env.globals (clOf env scope.names []) [] env.qual none .none (some env)) (fun cenv s₄ =>
      codeAny (model C.prog C.w) A (.compStart (.ListComp elt (g :: gs) scope pos) 0 it acc { cenv with scope := relabel scope env }) (RR acc cenv.locals) s₄) E s₃) E s₂) E s := by
  obtain ⟨x, px, it, ifs, rfl, hx, hok, _, htg'⟩ := targetsOk_cons htg
  refine iter_ok (C := C) S.x rv hi fun o _ hit => ?_
  refine wpAny_newObj_type (wpAny_newFunctionEnv (scOk_cell hsc) (by intro y hy; simp at hy) (fun h₁ hns₁ hsb₁ => ?_) hkind)
  dsimp only at hns₁ hsb₁ ⊢
  -- names for the three new objects
  have fr0 := get_size s.heap
  generalize hN : s.heap.objs.size = N at *
  generalize hH1 : s.heap.push o = H1 at *
  have e1 : H1.objs.size = N + 1 := by rw [← hH1, Heap.size_push, hN]
  generalize hH2 : H1.push { cls := .type "list", dict := none, data := .seq ([] : List Value).toArray } = H2 at *
  have e2 : H2.objs.size = N + 2 := by rw [← hH2, Heap.size_push, e1]
  have k1 : ∀ b o, s.heap.get? b = some o → H1.get? b = some o := fun b o e => hH1 ▸ Heap.get?_push_of_some _ e
  have k2 : ∀ b o, H1.get? b = some o → H2.get? b = some o := fun b o e => hH2 ▸ Heap.get?_push_of_some _ e
  have k3 : ∀ b o, H2.get? b = some o → h₁.get? b = some o := fun b o e => hsb₁.extBut b o (Nat.ne_of_lt (Heap.lt_size e)) (Heap.get?_push_of_some _ e)
  have k0 : ∀ b o, s.heap.get? b = some o → h₁.get? b = some o := fun b o e => k3 b o (k2 b o (k1 b o e))
  have lt0 : ∀ {b : Nat} {o}, s.heap.get? b = some o → b < N := fun e => hN ▸ Heap.lt_size e
  have frN : ∀ b : Nat, N ≤ b → s.heap.get? b = none := fun b hb => by
    cases q : s.heap.get? b with
    | none => rfl
    | some o => exact absurd (lt0 q) (Nat.not_lt.mpr hb)
  have XltN : ∀ b : Nat, X b → b < N := fun b hb => by obtain ⟨ob, eb⟩ := S.x.ex b hb; exact lt0 eb
  have hCsz : H2.objs.size ≠ N + 1 := by rw [e2]; omega
  rw [e1]
  rw [e2] at hns₁ hsb₁ ⊢
  show codeAny (model C.prog C.w) A (.compStart (.ListComp elt (⟨.Name x px, it, ifs, 0⟩ :: gs) scope pos) 0 (.ref N) (.ref (N + 1)) (compEnvC scope (clOf env scope.names []) (N + 2) env)) (RR (.ref (N + 1)) (N + 2)) _
  generalize hX' : (fun b => X b ∨ b = N ∨ b = N + 1 ∨ b = N + 2) = X'
  have X'of : ∀ b, (X b ∨ b = N ∨ b = N + 1 ∨ b = N + 2) → X' b := fun b h => by rw [← hX']; exact h
  have X'to : ∀ b, X' b → (X b ∨ b = N ∨ b = N + 1 ∨ b = N + 2) := fun b h => by rw [← hX'] at h; exact h
  have hcells : ∀ p ∈ scope.names, p.2 = .free → ∃ c, env.cells.lookup p.1 = some c := fun p hp hk => S.e.cl p.1 ((scOk_free hsc p hp hk).1)
  have hclL : ∀ y c, (clOf env scope.names []).lookup y = some c → env.cells.lookup y = some c := clOf_sound _ _ hcells (fun y c e => by simp at e)
  have hacc : h₁.PlainList (N + 1) #[] := ⟨0, k3 _ _ (by rw [← hH2, ← e1]; exact Heap.get?_push_size _ rfl)⟩
  have hitx : ItAt X' h₁ N its 0 := by
    have z := ItAt.av hit (X' := X') fun b ob eb q => by
      rcases X'to b q with q | q | q | q
      · exact .inl q
      · exact .inr q
      · subst q; have := Heap.lt_size eb; rw [e1] at this; exact absurd this (Nat.lt_irrefl _)
      · subst q; have : N + 2 < N + 1 := e1 ▸ Heap.lt_size eb; omega
    exact z.kp (Y := fun _ => False) (fun b ob _ e => k3 b ob (k2 b ob e)) (fun _ q => q.elim) id
  have Z : Fx C X' (compEnvC scope (clOf env scope.names []) (N + 2) env) N (N + 1) := by
    refine ⟨X'of _ (.inr (.inl rfl)), X'of _ (.inr (.inr (.inl rfl))), neN' (by omega), neN' (a := N) (b := N + 2) (by omega), neN' (a := N + 1) (b := N + 2) (by omega), S.H.baseNone (frN _ (Nat.le_refl _)), S.H.baseNone (frN _ (by omega)), S.H.baseNone (frN _ (by show N ≤ N + 2; omega)),
      fun q => absurd (XltN _ (S.x.tb _ q)) (by omega), fun q => absurd (XltN _ (S.x.tb _ q)) (by omega), fun y c hc => ?_, fun y c hc => ?_⟩
    · have := XltN _ (S.e.xc y c (hclL y c hc)); exact neN' (by omega)
    · have := XltN _ (S.e.xc y c (hclL y c hc)); exact neN' (by omega)
  have Ee : EnvOk C X' scope.names (compEnvC scope (clOf env scope.names []) (N + 2) env) (keepFree scope.names φ) h₁ := by
    refine ⟨hkind, S.e.gl, S.e.bl, fun q => absurd (XltN _ (S.x.tb _ q)) (by show ¬ (N + 2) < N; omega), X'of _ (.inr (.inr (.inr rfl))), fun y c hc => S.e.nc y c (hclL y c hc), fun y c hc => X'of _ (.inl (S.e.xc y c (hclL y c hc))),
      fun y => lookup_relabel y, fun y hy => ?_, fun y d ey => ?_⟩
    · rcases hy with hy | hy
      · exact absurd rfl (scOk_cell hsc _ (mem_lookup hy))
      · exact clOf_has _ _ _ (.inl (mem_lookup hy))
    · obtain ⟨hf, ey'⟩ := lookup_keepFree ey
      obtain ⟨h1, h2, u, ru, q⟩ := S.e.ld y d ey'
      refine ⟨h1, h2, u, (ru.av (X' := X') fun b ob eb q => ?_).kp (Y := fun _ => False) (fun b ob _ e => k0 b ob e) (fun _ q => q.elim), .inr ⟨.inr hf, ?_⟩⟩
      · rcases X'to b q with q | q | q | q
        · exact q
        · exact absurd (lt0 eb) (by rw [q]; omega)
        · exact absurd (lt0 eb) (by rw [q]; omega)
        · exact absurd (lt0 eb) (by rw [q]; omega)
      · obtain ⟨hsc1, hsc2⟩ := scOk_free hsc _ (mem_lookup hf) rfl
        rcases q with ⟨a, _⟩ | ⟨a, cc, hcc, oc, hoc, hdc⟩
        · rcases hsc1 with z | z <;> (dsimp only at z; rw [z] at a; cases a)
        · obtain ⟨c2, hc2⟩ := clOf_has (env := env) scope.names [] y (.inl (mem_lookup hf))
          have := hclL y c2 hc2
          rw [hcc] at this; cases this
          exact ⟨cc, hc2, oc, k0 _ _ hoc, hdc⟩
  have L : LI C X' scope.names (compEnvC scope (clOf env scope.names []) (N + 2) env) (keepFree scope.names φ) N (N + 1) its 0 [] #[] h₁ := by
    refine ⟨S.H.keeps k0, ⟨fun b q => X'of _ (.inl (S.x.tb b q)), fun b q => ?_⟩, Ee, hitx, ⟨_, hns₁⟩, hacc, by simp only [RpL]⟩
    rcases X'to b q with q | q | q | q
    · obtain ⟨ob, eb⟩ := S.x.ex b q; exact ⟨ob, k0 _ _ eb⟩
    · subst q
      rcases hitx with ⟨_, _, _, ⟨o', e', _⟩, _⟩ | ⟨_, _, _, e'⟩
      · exact ⟨o', e'⟩
      · exact ⟨_, e'⟩
    · subst q; obtain ⟨n, e⟩ := hacc; exact ⟨_, e⟩
    · subst q; exact Ns_ex hns₁
  have loop := compLoop_ok (elt := elt) (gens := ⟨.Name x px, it, ifs, 0⟩ :: gs) (scope := scope) (pos := pos) K (fun X φ => F X _ φ) (fun X φ => T X _ φ) (fun φ e d he x => hset φ e d he _ x)
    (⟨.Name x px, it, ifs, 0⟩ :: gs) 0 rfl [] htg X' N its Z its 0 (keepFree scope.names φ) l (fun m => by rw [Nat.zero_add]) (Nat.zero_add _) (fun y hy => .inr fun q => by
      cases e : (keepFree scope.names φ).lookup y with
      | none => exact hy e
      | some d => have := (lookup_keepFree e).1; rw [this] at q; cases q) hl
    { s with heap := h₁, toks := s.toks + ([] : List (Str × Value)).length } (RR (.ref (N + 1)) (N + 2)) [] #[] L (by simpa using hsz) (by
      intro h' tk ys' H' k' e' n' p' r'
      obtain ⟨m', n'⟩ := n'
      obtain ⟨n, ep⟩ := p'
      refine hR (N + 1) (N + 2) h' tk m' H' (fun b ob nb eb => k' b ob ?_ (k0 _ _ eb)) ?_ n' (frN _ (by omega)) (neN' (by omega)) (frN _ (by omega)) (Ns_ex n' |>.elim fun _ e => Heap.lt_size e)
      · rintro (q | q | q | q)
        · exact nb q
        · exact absurd (lt0 eb) (by rw [q]; show ¬ (N + 2 < N); omega)
        · exact absurd (lt0 eb) (by rw [q]; omega)
        · exact absurd (lt0 eb) (by rw [q]; omega)
      · simp only [Rp]
        refine ⟨N + 1, ys', n, rfl, ?_, ep, r'.av fun b ob _ q => X'of _ (q.elim .inl fun q => .inr (.inr (.inr q)))⟩
        rintro (q | q)
        · exact absurd (XltN _ q) (by omega)
        · exact absurd q (neN' (a := N + 1) (b := N + 2) (by omega)))
  exact compStart_at rfl loop (hitx.self (C := C) loop)
end
end Mine
namespace Mine
open PySem PySem.Spec PySem.Calls PyProof.Rows PySem.W
set_option linter.unusedVariables false

section
variable {C : Cfg} {k : Nat} {sc : Sc} {env : Env} {φ : Ph} {A : Around} {X : Addr → Prop} {E : Value → Shared → Prop} {s : Shared}

theorem subTail_ok {value slice : Expr} {o i : Value} {T id : String} {Q : Value → Shared → Prop} (hT : s.TypeIs o T) (hl : typeLookup (.type T) "__getitem__" = pure (some (.builtin id)))
    (h : wpAny (model C.prog C.w) A (getItem o i) Q E s) : wpAny (model C.prog C.w) A (subscriptTail value slice o i) Q E s := by
  unfold subscriptTail
  refine wpAny_bind ?_
  rw [getitemInPython_of_ne hT.not_modules]
  refine wpAny_bind (wpAny_specialOf hT hl ?_)
  have fin : wpAny (model C.prog C.w) A (subscripted slice false o i) (fun r s₃ => wpAny (model C.prog C.w) A (letTemporaryGo value o r >>= fun _ => pure r) Q E s₃) E s := by
    have hs : ∃ l, subscripted slice false o i = operate l (getItem o i) := by
      unfold subscripted
      split
      · exact ⟨_, rfl⟩
      · rename_i h; cases h
      · exact ⟨_, rfl⟩
    obtain ⟨l, hs⟩ := hs
    rw [hs]
    exact wpAny_operate' (wpAny_mono h (fun r s₃ h₃ => wpAny_bind (wpAny_letTemporaryGo (wpAny_pure h₃))) fun _ _ x => x)
  first
    | exact wpAny_pure (wpAny_bind fin)
    | exact wpAny_bind (wpAny_pure (wpAny_bind fin))
    | exact wpAny_bind fin

theorem idx_list {value slice : Expr} {l : List D} {i : Int} {d : D} {v u : Value} {Q : Value → Shared → Prop} (S : St C X sc env φ s.heap) (rl : Rp X s.heap (.lst l) v) (ri : Rp X s.heap (.int i) u) (e : idxD l i = some d) (h : Ret C X s d Q) :
    wpAny (model C.prog C.w) A (subscriptTail value slice v u) Q E s := by
  obtain ⟨a, vs, n, rfl, _, g, r⟩ := rl.lst_inv
  obtain ⟨t, rfl⟩ := ri.int_inv
  unfold idxD at e
  split at e
  · rename_i q
    simp only [Bool.and_eq_true, decide_eq_true_eq] at q
    obtain ⟨w, hw, rw'⟩ := r.get e
    have hL : s.heap.IsList a vs := ⟨_, g, rfl, n, rfl⟩
    exact subTail_ok hL.typeIs slot_list_getitem.lookup (wpAny_getItem_list hL q.1 (by omega) (by simpa using hw) (h.same S.H rw' s.toks))
  · cases e
theorem idx_tuple {value slice : Expr} {l : List D} {i : Int} {d : D} {v u : Value} {Q : Value → Shared → Prop} (S : St C X sc env φ s.heap) (rl : Rp X s.heap (.tup l) v) (ri : Rp X s.heap (.int i) u) (e : idxD l i = some d) (h : Ret C X s d Q) :
    wpAny (model C.prog C.w) A (subscriptTail value slice v u) Q E s := by
  obtain ⟨a, vs, n, rfl, _, g, r⟩ := rl.tup_inv
  obtain ⟨t, rfl⟩ := ri.int_inv
  unfold idxD at e
  split at e
  · rename_i q
    simp only [Bool.and_eq_true, decide_eq_true_eq] at q
    obtain ⟨w, hw, rw'⟩ := r.get e
    have hL : IsTup s.heap a vs := ⟨_, g, rfl, n, rfl⟩
    have hi : i.toNat < vs.size := by
      have := (List.getElem?_eq_some_iff.mp hw).1
      simpa using this
    exact subTail_ok hL.typeIs slot_tuple_getitem.lookup (getItem_tuple hL (by omega) (by omega) (j := i.toNat) (by simp [seqIndex?]; omega) (by simpa using hw) (h.same S.H rw' s.toks))
  · cases e

theorem slice_list {value slice : Expr} {l : List D} {lo hi st : Option Int} {l' : List D} {v vl vu vs' : Value} {sl : Addr} {Q : Value → Shared → Prop} (S : St C X sc env φ s.heap) (rl : Rp X s.heap (.lst l) v) (hs : s.heap.IsSliceOf sl vl vu vs')
    (pl : IsPart vl lo) (pu : IsPart vu hi) (ps : IsPart vs' st) (h0 : st ≠ some 0) (hz : l.length ≤ 1000)
    (hp : ∀ vs : Array Value, RpL X s.heap l vs.toList → RpL X s.heap l' (slicePick vs lo hi st).toList) (h : Ret C X s (.lst l') Q) :
    wpAny (model C.prog C.w) A (subscriptTail value slice v (.ref sl)) Q E s := by
  obtain ⟨a, vs, n, rfl, _, g, r⟩ := rl.lst_inv
  have hL : s.heap.IsList a vs := ⟨_, g, rfl, n, rfl⟩
  have hl := r.length
  simp only [Array.length_toList] at hl
  exact subTail_ok hL.typeIs slot_list_getitem.lookup (wpAny_getItem_list_slice hL hs pl pu ps h0 (h.newL S.H S.x (hp vs r) s.toks) (by rw [sizeLine_eq]; omega))

theorem starred_none {f : Expr → Option D} {pos : Pos} : ∀ {es : List Expr} {l : List D}, evs f es = some l → (backTo pos (starEach es env)).any (·.1) = false
  | [], _, _ => rfl
  | e :: es, l, h => by
    have : starEach (e :: es) env = (false, eval e env) :: starEach es env ∧ ∃ l', evs f es = some l' := by
      cases e <;> first
        | (simp only [evs] at h; cases h; done)
        | (simp only [evs, Option.bind_eq_some_iff, Option.some.injEq] at h
           obtain ⟨d, h1, l', h2, rfl⟩ := h
           exact ⟨rfl, l', h2⟩)
    obtain ⟨e1, l', e2⟩ := this
    rw [e1]
    show (false || (backTo pos (starEach es env)).any (·.1)) = false
    rw [starred_none e2]; rfl

theorem gval_load (CO : CfgOk C) (S : St C X sc env φ s.heap) {f : Str} {fv : Value} {Q : Value → Shared → Prop} (g : Gval C f fv) (h : Q fv s) : wpAny (model C.prog C.w) A (loadGlobal env f) Q E s := by
  have hg : s.heap.Ns env.globals C.mg := by rw [S.e.gl]; exact CO.g.keeps S.H.base
  have hb : s.heap.Ns env.builtins C.mb := by rw [S.e.bl]; exact CO.b.keeps S.H.base
  rcases g with g | ⟨g, g'⟩
  · exact loadGlobal_global hg g h
  · exact loadGlobal_builtin hg g hb g' h

theorem call_ok {G : Fn} {f : Str} {args : List Expr} {p pos : Pos} {l : List D} {d : D} {ff : Expr → Option D} {Q : Value → Shared → Prop} (CO : CfgOk C) (GO : GOk C k G) (K : Aok k A) (F : FOk C k X sc env φ ff) (S : St C X sc env φ s.heap)
    (hsc : sc.lookup f = some .globalImplicit) (ea : evs ff args = some l) (eg : G f l = some d) (h : Ret C X s d Q) : wpAny (model C.prog C.w) A (eval (.Call (.Name f p) args [] pos) env) Q E s := by
  obtain ⟨hdb, fv, gv, kp, co⟩ := GO f l d eg
  show wpAny (model C.prog C.w) A (do callWith pos (← eval (.Name f p) env) [] (backTo pos (starEach args env)) []) Q E s
  have hk : env.kindOf f = some .globalImplicit := by
    rcases S.e.kd f with q | ⟨q, _⟩
    · rw [q]; exact hsc
    · rw [hsc] at q; cases q
  refine wpAny_bind (Name_function_global S.e.fn hk (gval_load CO S gv ?_) hdb)
  refine callWith_of (P := HOk C) (by rw [starred_none ea]; rfl) kp ?_
  have body : wpAny (model C.prog C.w) A (spliced (backTo pos (starEach args env))) (fun vs s₁ => HOk C s₁.heap ∧ wpAny (model C.prog C.w) A (call fv ([] ++ vs) []) Q E s₁) E s := by
    refine evs_ok F K args l ea s _ E S fun vs h' tk H k1 r => ⟨H, ?_⟩
    exact co A X vs _ Q E K H (S.x.kp H k1) r fun v h'' tk'' H' k2 r2 => h v h'' tk'' H' (k1.trans k2) r2
  cases args with
  | nil =>
    simp only [evs, Option.some.injEq] at ea; subst ea
    simp only [starEach, backTo, List.map_nil]
    exact evalArgs_nil3 ⟨S.H, co A X [] s Q E K S.H S.x (by simp only [RpL]) h⟩
  | cons e es =>
    have hs : starEach (e :: es) env = (false, eval e env) :: starEach es env := by
      cases e <;> first
        | (simp only [evs] at ea; cases ea; done)
        | rfl
    rw [hs] at body ⊢
    exact evalArgs_plain body


theorem methEq {y name : Str} {py apos pos : Pos} {env : Env} (hq : (apos.endLine == pos.line) = true) : eval (.Call (.Attribute (.Name y py) name apos) [] [] pos) env = (do
      let ov ← eval (.Name y py) env
      standAt apos.atName
      let (f, first) ← holding [ov] (getMethod ov name (do return (← importBound (.Name y py) env).getD true))
      callWith pos f first (backTo pos (starEach [] env)) []) := by
  rw [arm_eval_Call]
  have hf : methodCallForm (([] : List Expr).length + ([] : List Keyword).length) (backTo pos (starEach [] env)) (backToKw pos (keywordEach [] env)) = true := rfl
  simp only [methodCall, hf, methodCallPos, calleeOf, hq, Bool.or_true, if_true, pure_bind]
  rfl

theorem Compare_ok {left : Expr} {ops : List CmpOp} {cs : List Expr} {pos : Pos} {Q : Value → Shared → Prop} (hm : lastMarks ops cs = false)
    (h : wpAny (model C.prog C.w) A (eval left env) (fun a s₁ => wpAny (model C.prog C.w) A (compareChain pos a ops (evalEach cs env)) Q E s₁) E s) : wpAny (model C.prog C.w) A (eval (.Compare left ops cs pos) env) Q E s := by
  show wpAny (model C.prog C.w) A (do compareChain pos (← eval left env) ops (markedEach ops cs (evalEach cs env))) Q E s
  rw [markedEach_of_false _ _ _ hm]
  exact wpAny_bind h
theorem CompareT_ok {left : Expr} {ops : List CmpOp} {cs : List Expr} {pos : Pos} {whole : Sem Value} {Q : Bool → Shared → Prop} (hm : lastMarks ops cs = false)
    (h : wpAny (model C.prog C.w) A (eval left env) (fun a s₁ => wpAny (model C.prog C.w) A (testChain pos a ops (evalEach cs env)) Q E s₁) E s) : wpAny (model C.prog C.w) A (isTrue (.Compare left ops cs pos) env whole) Q E s := by
  show wpAny (model C.prog C.w) A (do testChain pos (← eval left env) ops (markedEach ops cs (evalEach cs env))) Q E s
  rw [markedEach_of_false _ _ _ hm]
  exact wpAny_bind h

theorem ev_set {G : Fn} {n : Nat} {e : Expr} {d : D} (h : ev G n sc φ e = some d) : ∀ env x, foldedSetIterable e env x = pure x := fun env x => by
  cases e <;> first
    | rfl
    | (cases n <;> simp [ev] at h)

/-- compFinish: the comprehension's value, its frame let go -/
theorem ListComp_ok {elt : Expr} {g : Comprehension} {gs : List Comprehension} {scope : Scope} {pos : Pos} {f : Expr → Option D} {f' : Ph → Expr → Option D} {c : D} {its l : List D} {Q : Value → Shared → Prop} (K : Aok k A) (S : St C X sc env φ s.heap)
    (F0 : FOk C k X sc env φ f) (hset0 : ∀ env x, foldedSetIterable g.iter env x = pure x)
    (F : ∀ X env φ, FOk C k X scope.names env φ (f' φ)) (T : ∀ X env φ, TOk C k X scope.names env φ (f' φ)) (hset : ∀ φ e d, f' φ e = some d → ∀ env x, foldedSetIterable e env x = pure x)
    (hsc : scOk sc scope.names = true) (htg : targetsOk scope.names [] (g :: gs) = true) (hkind : scope.kind = .function) (ec : f g.iter = some c) (ei : itemsD c = some its) (el : evComp f' elt (g :: gs) its (keepFree scope.names φ) = some l) (hz : l.length ≤ 1000)
    (h : Ret C X s (.lst l) Q) : wpAny (model C.prog C.w) A (eval (.ListComp elt (g :: gs) scope pos) env) Q E s := by
  have hg : g.is_async = 0 := by obtain ⟨x, px, it, ifs, rfl, _⟩ := targetsOk_cons htg; rfl
  have hfa : firstAsync (g :: gs) = false := by
    obtain ⟨x, px, it, ifs, rfl, _⟩ := targetsOk_cons htg; rfl
  have hfi : firstIter (g :: gs) env = eval g.iter env := by obtain ⟨x, px, it, ifs, rfl, _⟩ := targetsOk_cons htg; rfl
  rw [eval_ListComp, hfa, hfi]
  refine wpAny_comprehension_free (use := none) rfl (fun x => hset0 env x) (closure_eq fun p hp hk => S.e.cl p.1 ((scOk_free hsc p hp hk).1)) hkind (scOk_local hsc) ?_
  refine F0 g.iter c ec A s _ E K S fun v h1 tk1 H1 k1 r1 => ?_
  refine compBlock_ok (RR := fun acc Cc => compPost (model C.prog C.w) A E none Q acc Cc) K (S.kp H1 k1) hsc htg hkind F T hset r1 ei el hz ?_
  intro Dl Cc h' tk m' H' k' r' n' f1 hne f2 _
  refine ⟨m', n', fun h'' hs'' => h (.ref Dl) h'' tk ?_ ?_ ?_⟩
  · exact H'.same hs'' ((S.kp H1 k1).H.baseNone f1) (Ns_nja n')
  · intro b o nb eb
    have e1 := k1 b o nb eb
    have e2 := k' b o nb e1
    exact hs''.extBut b o (by rintro rfl; rw [show (({ s with heap := h1, toks := tk1 } : Shared).heap.get? b) = h1.get? b from rfl, e1] at f1; cases f1) e2
  · exact (r'.kp (Y := fun b => b = Cc) (.same hs'' rfl) fun b q => .inr q).av fun b _ _ q => .inl q
end
end Mine
namespace Mine
open PySem PySem.Spec PySem.Calls PyProof.Rows PySem.W
set_option linter.unusedVariables false
set_option maxRecDepth 100000

theorem ev_ok {C : Cfg} {k : Nat} {G : Fn} (CO : CfgOk C) (GO : GOk C k G) : ∀ n, (∀ X sc env φ, FOk C k X sc env φ (ev G n sc φ)) ∧ (∀ X sc env φ, TOk C k X sc env φ (ev G n sc φ)) := by
  intro n
  induction n with
  | zero => exact ⟨fun X sc env φ e d h => by simp [ev] at h, fun X sc env φ e d b h => by simp [ev] at h⟩
  | succ n ih =>
    have hF : ∀ X sc env φ, FOk C k X sc env φ (ev G (n + 1) sc φ) := by
      intro X sc env φ e d h0 A s Q E K S h
      have F := ih.1 X sc env φ
      have T := ih.2 X sc env φ
      cases e with
      | Constant c kk pos =>
        cases c <;> simp only [ev, Option.some.injEq] at h0 <;> first
          | (subst h0; exact Constant_none (h.same S.H (by simp only [Rp]) s.toks))
          | (subst h0; exact Constant_bool (h.same S.H (by simp only [Rp]) s.toks))
          | (subst h0; exact wpAny_Constant_int (h.same S.H (by simp only [Rp]; exact ⟨_, rfl⟩) _))
          | cases h0
      | Name x pos =>
        simp only [ev] at h0
        exact Name_ok S h0 h
      | BinOp l op r pos =>
        simp only [ev, Option.bind_eq_some_iff] at h0
        obtain ⟨a, h1, b, h2, h3⟩ := h0
        refine wpAny_BinOp (F l a h1 A s _ E K S fun va h' tk H k1 ra => F r b h2 A _ _ E K (S.kp H k1) fun vb h'' tk' H' k2 rb => ?_)
        exact bin_ok K H' ((S.kp H k1).x.kp H' k2) (ra.kp k2 S.x.tb) rb h3 fun v h3 tk3 H3 k3 r3 => h v h3 tk3 H3 ((k1.trans k2).trans k3) r3
      | UnaryOp op x pos =>
        cases op <;> simp only [ev, Option.bind_eq_some_iff, Option.map_eq_some_iff] at h0 <;> try cases h0
        rename_i a hh
        obtain ⟨h1, b, h2, rfl⟩ := hh
        refine UnaryOp_ (F x a h1 A s _ E K S fun v h' tk H k1 r => not_of (truth_ok (C := C) r h2 fun tk' => ?_))
        exact h _ _ _ H k1 (by simp only [Rp])
      | BoolOp op vs pos =>
        simp only [ev] at h0
        exact evBool_ok F K vs d h0 s Q E S h
      | IfExp t a b pos =>
        simp only [ev, Option.bind_eq_some_iff] at h0
        obtain ⟨c, h1, b1, h2, h3⟩ := h0
        refine IfExp_ (T t c b1 h1 h2 A s _ E K S fun h' tk H k1 => ?_)
        cases b1 with
        | true => simp only [if_true] at h3 ⊢; exact F a d h3 A _ Q E K (S.kp H k1) fun v h'' tk' H' k2 r => h v h'' tk' H' (k1.trans k2) r
        | false => simp only [Bool.false_eq_true, if_false] at h3 ⊢; exact F b d h3 A _ Q E K (S.kp H k1) fun v h'' tk' H' k2 r => h v h'' tk' H' (k1.trans k2) r
      | Compare l ops cs pos =>
        simp only [ev] at h0
        split at h0
        · cases h0
        · rename_i hm
          simp only [Option.bind_eq_some_iff] at h0
          obtain ⟨a, h1, h2⟩ := h0
          refine Compare_ok (by simpa using hm) (F l a h1 A s _ E K S fun va h' tk H k1 ra => ?_)
          exact evCmp_ok F K ops cs a d va h2 _ Q E (S.kp H k1) ra fun v h'' tk' H' k2 r => h v h'' tk' H' (k1.trans k2) r
      | List es pos =>
        simp only [ev, Option.bind_eq_some_iff] at h0
        obtain ⟨l, h1, h2⟩ := h0
        split at h2
        · rename_i hz
          cases h2
          refine List_ (evs_ok F K es l h1 s _ E S fun vs h' tk H k1 r => ?_)
          have hl := r.length
          simp only [decide_eq_true_eq] at hz
          refine wpAny_newObj_type (Ret.newL (s := { s with heap := h', toks := tk }) (vs := vs.toArray) (fun v h'' tk' H' k2 r2 => h v h'' tk' H' (k1.trans k2) r2) H (S.x.kp H k1) (by simpa using r) tk) ?_
          show vs.toArray.size ≤ sizeLine
          rw [sizeLine_eq, List.size_toArray]; omega
        · cases h2
      | Tuple es kk pos =>
        simp only [ev, Option.bind_eq_some_iff] at h0
        obtain ⟨l, h1, h2⟩ := h0
        split at h2
        · rename_i hz
          cases h2
          refine Tuple_ (evs_ok F K es l h1 s _ E S fun vs h' tk H k1 r => ?_)
          have hl := r.length
          simp only [decide_eq_true_eq] at hz
          refine wpAny_newObj_type (Ret.newT (s := { s with heap := h', toks := tk }) (vs := vs.toArray) (fun v h'' tk' H' k2 r2 => h v h'' tk' H' (k1.trans k2) r2) H (S.x.kp H k1) (by simpa using r) tk) ?_
          show vs.toArray.size ≤ sizeLine
          rw [sizeLine_eq, List.size_toArray]; omega
        · cases h2
      | Call f args kws pos =>
        cases f <;> cases kws <;> try (simp only [ev] at h0; cases h0; done)
        case Attribute.nil v m apos =>
          cases v <;> cases args <;> try (simp only [ev] at h0; cases h0; done)
          case Name.nil y py =>
            simp only [ev] at h0
            split at h0
            · rename_i hm
              simp only [Bool.and_eq_true] at hm
              simp only [Option.bind_eq_some_iff] at h0
              obtain ⟨a, h1, h2⟩ := h0
              cases a <;> simp only [Option.some.injEq, reduceCtorEq] at h2
              subst h2
              rename_i i
              have hm' : m = ("bit_length" : Str) := by simpa using hm.1
              subst hm'
              refine MethodCall_ (he := methEq hm.2) (F _ _ h1 A s _ E K S fun va h' tk H k1 ra => ?_)
              obtain ⟨t, rfl⟩ := ra.int_inv
              exact getMethod_int_bit_length (callWith_method0 (call_int_bit_length (h (.int _ _) h' _ H k1 (by simp only [Rp]; exact ⟨_, rfl⟩))))
            · cases h0
        rename_i f p
        simp only [ev] at h0
        split at h0
        · rename_i hsc
          simp only [Option.bind_eq_some_iff] at h0
          obtain ⟨l, h1, h2⟩ := h0
          exact call_ok CO GO K F S (by simpa using hsc) h1 h2 h
        · cases h0
      | ListComp elt gens scope pos =>
        cases gens with
        | nil => simp only [ev] at h0; cases h0
        | cons g gs =>
          simp only [ev] at h0
          split at h0
          · rename_i hc
            simp only [Bool.and_eq_true, beq_iff_eq] at hc
            simp only [Option.bind_eq_some_iff] at h0
            obtain ⟨c, h1, its, h2, l, h3, h4⟩ := h0
            split at h4
            · rename_i hz
              cases h4
              exact ListComp_ok K S F (ev_set h1) (fun X env φ => ih.1 X _ env φ) (fun X env φ => ih.2 X _ env φ) (fun φ e d he => ev_set he) hc.1.1 hc.1.2 hc.2 h1 h2 h3 (by simpa using hz) h
            · cases h4
          · cases h0
      | Subscript v i pos =>
        have gen : ∀ {a b : D}, ev G n sc φ v = some a → ev G n sc φ i = some b → (match a, b with | .lst l, .int k => idxD l k | .tup l, .int k => idxD l k | _, _ => none) = some d → wpAny (model C.prog C.w) A (eval (.Subscript v i pos) env) Q E s := by
          intro a b h1 h2 h3
          refine Subscript_ (F v a h1 A s _ E K S fun va h' tk H k1 ra => F i b h2 A _ _ E K (S.kp H k1) fun vb h'' tk' H' k2 rb => ?_)
          have S2 := (S.kp H k1).kp H' k2
          split at h3
          · exact idx_list (s := { s with heap := h'', toks := tk' }) S2 (ra.kp k2 S.x.tb) rb h3 fun v h3 tk3 H3 k3 r3 => h v h3 tk3 H3 ((k1.trans k2).trans k3) r3
          · exact idx_tuple (s := { s with heap := h'', toks := tk' }) S2 (ra.kp k2 S.x.tb) rb h3 fun v h3 tk3 H3 k3 r3 => h v h3 tk3 H3 ((k1.trans k2).trans k3) r3
          · cases h3
        cases i with
        | Slice lo up st p =>
          simp only [ev] at h0
          split at h0
          · rename_i u p' heq
            cases heq
            simp only [Option.bind_eq_some_iff] at h0
            obtain ⟨a, h1, b, h2, h3⟩ := h0
            split at h3
            · rename_i l kk
              split at h3
              · rename_i hc
                cases h3
                simp only [Bool.and_eq_true, decide_eq_true_eq] at hc
                refine Subscript_ (F v _ h1 A s _ E K S fun va h' tk H k1 ra => wpAny_Slice (wpAny_pure (F u _ h2 A _ _ E K (S.kp H k1) fun vb h'' tk' H' k2 rb => wpAny_pure ?_)))
                obtain ⟨t, rfl⟩ := rb.int_inv
                have S2 := (S.kp H k1).kp H' k2
                have S3 := S2.kp (H'.push { cls := .type "slice", data := .fields #[.none, .int kk t, .none] }) (.push _)
                refine slice_list (s := { s with heap := h''.push { cls := .type "slice", data := .fields #[.none, .int kk t, .none] }, toks := tk' }) (lo := none) (hi := some kk) (st := none) S3 ((ra.kp k2 S.x.tb).kp (.push _) S.x.tb) (Heap.IsSliceOf.new ..) .none (.int _ _) .none (by simp) hc.2 (fun vs r => ?_)
                  fun v h3 tk3 H3 k3 r3 => h v h3 tk3 H3 ((k1.trans k2).trans ((Kp.push _).trans k3)) r3
                have e := slicePick_upto' vs kk.toNat
                rw [Int.toNat_of_nonneg hc.1.1] at e
                rw [e]
                simpa using r.take kk.toNat
              · cases h3
            · cases h3
          · rename_i q1 q2 q3 p' heq
            cases heq
            simp only [Option.bind_eq_some_iff] at h0
            obtain ⟨a, h1, h3⟩ := h0
            split at h3
            · rename_i l
              split at h3
              · rename_i hc
                cases h3
                simp only [decide_eq_true_eq] at hc
                refine Subscript_ (F v _ h1 A s _ E K S fun va h' tk H k1 ra => wpAny_Slice (wpAny_pure (wpAny_pure ?_)))
                refine UnaryOp_ (wpAny_Constant_int (P.neg_int ?_))
                have S1 := S.kp H k1
                have S3 := S1.kp (H.push { cls := .type "slice", data := .fields #[.none, .none, .int (-1) (tk + 1)] }) (.push _)
                refine slice_list (s := { s with heap := h'.push { cls := .type "slice", data := .fields #[.none, .none, .int (-1) (tk + 1)] }, toks := tk + 1 + 1 }) (lo := none) (hi := none) (st := some (-1)) S3 (ra.kp (.push _) S.x.tb) (Heap.IsSliceOf.new ..) .none .none (.int _ _) (by simp) hc (fun vs r => ?_)
                  fun v h3 tk3 H3 k3 r3 => h v h3 tk3 H3 (k1.trans ((Kp.push _).trans k3)) r3
                rw [krv_pick]
                simpa using r.reverse
              · cases h3
            · cases h3
          · cases h0
          · rename_i q1 q2 q3
            exact absurd rfl (q3 _ _ _ _)
        | _ => (simp only [ev, Option.bind_eq_some_iff] at h0; obtain ⟨a, h1, b, h2, h3⟩ := h0; exact gen h1 h2 h3)
      | _ => simp [ev] at h0
    refine ⟨hF, ?_⟩
    intro X sc env φ e d b h0 hb A s Q E K S h
    have F := ih.1 X sc env φ
    have T := ih.2 X sc env φ
    have plain : (∀ whole, isTrue e env whole = (do let v ← whole; standAt e.pos; holding [v] (truthy v))) → wpAny (model C.prog C.w) A (isTrue e env (eval e env)) Q E s := fun he =>
      isTrue_plain (hF X sc env φ e d h0 A s _ E K S fun v h' tk H k1 r => truth_ok (C := C) r hb fun tk' => h _ _ H k1) (he _)
    cases e with
    | UnaryOp op x pos =>
      cases op <;> try (simp only [ev] at h0; cases h0; done)
      simp only [ev, Option.bind_eq_some_iff, Option.map_eq_some_iff] at h0
      obtain ⟨a, h1, b1, h2, rfl⟩ := h0
      simp only [truthD, Option.some.injEq] at hb; subst hb
      exact isTrue_not (T x a b1 h1 h2 A s _ E K S fun h' tk H k1 => h _ _ H k1)
    | BoolOp op vs pos =>
      simp only [ev] at h0
      exact boolTrue_ok T K vs d b h0 hb s Q E S h
    | IfExp t x y pos =>
      simp only [ev, Option.bind_eq_some_iff] at h0
      obtain ⟨c, h1, b1, h2, h3⟩ := h0
      refine isTrue_IfExp (T t c b1 h1 h2 A s _ E K S fun h' tk H k1 => ?_)
      cases b1 with
      | true => simp only [if_true] at h3 ⊢; exact T x d b h3 hb A _ Q E K (S.kp H k1) fun h'' tk' H' k2 => h h'' tk' H' (k1.trans k2)
      | false => simp only [Bool.false_eq_true, if_false] at h3 ⊢; exact T y d b h3 hb A _ Q E K (S.kp H k1) fun h'' tk' H' k2 => h h'' tk' H' (k1.trans k2)
    | Compare l ops cs pos =>
      simp only [ev] at h0
      split at h0
      · cases h0
      · rename_i hm
        simp only [Option.bind_eq_some_iff] at h0
        obtain ⟨a, h1, h2⟩ := h0
        refine CompareT_ok (by simpa using hm) (F l a h1 A s _ E K S fun va h' tk H k1 ra => ?_)
        exact cmpTrue_ok F K ops cs a d b va h2 hb _ Q E (S.kp H k1) ra fun h'' tk' H' k2 => h h'' tk' H' (k1.trans k2)
    | _ => exact plain fun _ => rfl
end Mine
namespace Mine
open PySem PySem.Spec PySem.Calls PyProof.Rows PySem.W
set_option linter.unusedVariables false

abbrev Out := Ph × Option D
def kindSt (sc : Sc) (x : Str) : Bool := okName x && (sc.lookup x == some .local || sc.lookup x == some .cell)
def kindLo (sc : Sc) (x : Str) : Bool := okName x && sc.lookup x == some .local

def exB (f : Ph → Stmt → Option Out) : List Stmt → Ph → Option Out
  | [], φ => some (φ, none)
  | st :: r, φ => (f φ st).bind fun o => match o.2 with
    | none => exB f r o.1
    | some _ => some o

def whileD (t : Ph → Option Bool) (b : Ph → Option Out) : Nat → Ph → Option Out
  | 0, _ => none
  | n + 1, φ => (t φ).bind fun c => if c then (b φ).bind fun o => (match o.2 with
    | none => whileD t b n o.1
    | some _ => some o) else some (φ, none)

def forD (b : Ph → Option Out) (x : Str) : List D → Ph → Option Out
  | [], φ => some (φ, none)
  | d :: r, φ => (b (setA x d φ)).bind fun o => match o.2 with
    | none => forD b x r o.1
    | some _ => some o

/-- statements without writes but to names -/
def exS (G : Fn) (N : Nat) : Nat → Sc → Ph → Stmt → Option Out
  | 0, _, _, _ => none
  | n + 1, sc, φ, st => match st with
    | .Assign [.Name x _] e _ => if kindSt sc x then (ev G N sc φ e).map fun d => (setA x d φ, none) else none
    | .Return (some e) _ => (ev G N sc φ e).map fun d => (φ, some d)
    | .If t b o _ => (ev G N sc φ t).bind fun d => (truthD d).bind fun c => exB (exS G N n sc) (if c then b else o) φ
    | .While t b [] _ => whileD (fun φ => (ev G N sc φ t).bind truthD) (exB (exS G N n sc) b) n φ
    | .For (.Name x _) it b [] _ => if kindLo sc x then (ev G N sc φ it).bind fun d => (itemsD d).bind fun its => forD (exB (exS G N n sc) b) x its φ else none
    | _ => none

def Yf (C : Cfg) (sc : Sc) (env : Env) (b : Addr) : Prop := C.Tb b ∨ b = env.locals ∨ ∃ x, sc.lookup x = some .cell ∧ env.cells.lookup x = some b

structure FrOk (C : Cfg) (X : Addr → Prop) (sc : Sc) (env : Env) (φ : Ph) (h : Heap) : Prop where
  st : St C X sc env φ h
  ns : ∃ m, h.Ns env.locals m
  lB : C.B.get? env.locals = none
  cx : ∀ x, sc.lookup x = some .cell → ∃ c v, env.cells.lookup x = some c ∧ h.IsCell c v ∧ C.B.get? c = none
  ap : ∀ x y c, env.cells.lookup x = some c → env.cells.lookup y = some c → x = y

section
variable {C : Cfg} {k : Nat} {sc : Sc} {env : Env} {φ : Ph} {A : Around} {X : Addr → Prop} {E : Value → Shared → Prop} {s : Shared} {h h' : Heap}
theorem FrOk.kp (x : FrOk C X sc env φ h) (H : HOk C h') (k : Kp C.Tb h h') : FrOk C X sc env φ h' :=
  ⟨x.st.kp H k, let ⟨m, n⟩ := x.ns; ⟨m, Ns_kp n k x.st.e.nl⟩, x.lB, fun y hy => let ⟨c, v, a, ⟨o, ho, hd⟩, b⟩ := x.cx y hy; ⟨c, v, a, ⟨o, k _ _ (x.st.e.nc y c a) ho, hd⟩, b⟩, x.ap⟩
theorem Yf_X (x : FrOk C X sc env φ h) : ∀ b, Yf C sc env b → X b := fun b q => by
  rcases q with q | q | ⟨y, _, q⟩
  · exact x.st.x.tb b q
  · exact q ▸ x.st.e.xl
  · exact x.st.e.xc y b q
theorem Kp.yf (x : Kp C.Tb h h') : Kp (Yf C sc env) h h' := x.mono fun b q => .inl q

theorem FrOk.local {x : Str} {d : D} {v : Value} {m : Str → Option Value} (F : FrOk C X sc env φ h) (hx : sc.lookup x = some .local) (ok : okName x = true) (hn : h.Ns env.locals m)
    (hn' : h'.Ns env.locals (fun y => if y = x then some v else m y)) (hs : Heap.SameBut env.locals h h') (r : Rp X h d v) : FrOk C X sc env (setA x d φ) h' := by
  have k : Kp (fun b => b = env.locals) h h' := .same hs rfl
  have H := F.st.H.same hs F.lB (Ns_nja hn)
  refine ⟨⟨H, F.st.x.via H k fun b q _ => .inr (q ▸ Ns_ex hn'), F.st.e.store hx ok hn hn' hs r⟩, ⟨_, hn'⟩, F.lB, fun y hy => ?_, F.ap⟩
  obtain ⟨c, u, a, ⟨o, ho, hd⟩, b⟩ := F.cx y hy
  refine ⟨c, u, a, ⟨o, k _ _ (fun w => ?_) ho, hd⟩, b⟩
  obtain ⟨o', _, _, ho', hd', _⟩ := hn
  rw [show c = env.locals from w, ho'] at ho; cases ho
  rw [hd'] at hd; cases hd

theorem FrOk.cell {x : Str} {d : D} {v : Value} {c : Addr} {u : Option Value} (F : FrOk C X sc env φ h) (hx : sc.lookup x = some .cell) (ok : okName x = true) (hc : env.cells.lookup x = some c) (hi : h.IsCell c u)
    (hi' : h'.IsCell c (some v)) (hs : Heap.SameBut c h h') (r : Rp X h d v) : FrOk C X sc env (setA x d φ) h' := by
  have k : Kp (fun b => b = c) h h' := .same hs rfl
  have ss : ∀ b, (fun b => b = c) b → X b := fun b q => q ▸ F.st.e.xc x c hc
  obtain ⟨oc, hoc, hdc⟩ := hi
  obtain ⟨c0, u0, a0, _, b0⟩ := F.cx x hx
  rw [hc] at a0; cases a0
  have H := F.st.H.same hs b0 (nja_data hoc fun vs q => by rw [hdc] at q; cases q)
  have nl : env.locals ≠ c := fun q => by
    obtain ⟨m, o', _, _, ho', hd', _⟩ := F.ns
    rw [q, hoc] at ho'; cases ho'
    rw [hdc] at hd'; cases hd'
  simp only [okName, Bool.and_eq_true, Bool.not_eq_true'] at ok
  have e := F.st.e
  refine ⟨⟨H, F.st.x.via H k fun b q _ => .inr ?_, ⟨e.fn, e.gl, e.bl, e.nl, e.xl, e.nc, e.xc, e.kd, e.cl, fun y d' ey => ?_⟩⟩, let ⟨m, n⟩ := F.ns; ⟨m, Ns_kp n k nl⟩, F.lB, fun y hy => ?_, F.ap⟩
  · subst q; obtain ⟨o, ho, _⟩ := hi'; exact ⟨o, ho⟩
  · rw [lookup_setA] at ey
    by_cases q : y = x
    · subst q
      rw [if_pos rfl] at ey; cases ey
      exact ⟨ok.1, ok.2, v, r.kp k ss, .inr ⟨.inl hx, c, hc, hi'⟩⟩
    · rw [if_neg q] at ey
      obtain ⟨h1, h2, w, rw', z⟩ := e.ld y d' ey
      refine ⟨h1, h2, w, rw'.kp k ss, z.imp (fun ⟨a, m, hm, e'⟩ => ⟨a, m, Ns_kp hm k nl, e'⟩) fun ⟨a, c2, hc2, o2, ho2, hd2⟩ => ⟨a, c2, hc2, o2, k _ _ (fun w => ?_) ho2, hd2⟩⟩
      exact q (F.ap y x c (by rw [hc2, show c2 = c from w]) hc)
  · by_cases q : y = x
    · subst q; exact ⟨c, some v, hc, hi', b0⟩
    · obtain ⟨c2, u2, a2, ⟨o2, ho2, hd2⟩, b2⟩ := F.cx y hy
      exact ⟨c2, u2, a2, ⟨o2, k _ _ (fun w => q (F.ap y x c (by rw [a2, show c2 = c from w]) hc)) ho2, hd2⟩, b2⟩

/-- a name is bound -/
theorem store_ok {x : Str} {d : D} {v : Value} {Q : Unit → Shared → Prop} (F : FrOk C X sc env φ s.heap) (hx : kindSt sc x = true) (r : Rp X s.heap d v)
    (h : ∀ h' tk, FrOk C X sc env (setA x d φ) h' → Kp (fun b => b = env.locals ∨ ∃ x, sc.lookup x = some .cell ∧ env.cells.lookup x = some b) s.heap h' → Q () { s with heap := h', toks := tk }) : wpAny (model C.prog C.w) A (storeName env x v) Q E s := by
  simp only [kindSt, Bool.and_eq_true, Bool.or_eq_true, beq_iff_eq] at hx
  have kd : ∀ kk, sc.lookup x = some kk → kk ≠ .free → env.kindOf x = some kk := fun kk e hf => by
    rcases F.st.e.kd x with q | ⟨q, _⟩
    · rw [q]; exact e
    · rw [e] at q; cases q; exact absurd rfl hf
  rcases hx with ⟨ok, hx | hx⟩
  · obtain ⟨m, hn⟩ := F.ns
    refine wpAny_storeName_local (kd _ hx (by decide)) hn (fun h' hn' hs => ?_) (by rw [F.st.e.fn]; rfl)
    exact h h' _ (F.local hx ok hn hn' hs r) (.same hs (.inl rfl))
  · obtain ⟨c, u, a, hi, b⟩ := F.cx x hx
    refine wpAny_storeName_cell F.st.e.fn (kd _ hx (by decide)) a hi fun h' hi' hs => ?_
    exact h h' s.toks (F.cell hx ok a hi hi' hs r) (.same hs (.inr ⟨x, hx, a⟩))
theorem assign_ok {x : Str} {p : Pos} {d : D} {v : Value} {Q : Unit → Shared → Prop} (F : FrOk C X sc env φ s.heap) (hx : kindSt sc x = true) (r : Rp X s.heap d v)
    (h : ∀ h' tk, FrOk C X sc env (setA x d φ) h' → Kp (Yf C sc env) s.heap h' → Q () { s with heap := h', toks := tk }) : wpAny (model C.prog C.w) A (assign (.Name x p) env v) Q E s :=
  wpAny_assign_Name (store_ok F hx r fun h' tk F' k' => h h' tk F' (k'.mono fun b q => .inr q))

/-- what a statement leaves -/
abbrev ExR (C : Cfg) (X : Addr → Prop) (sc : Sc) (env : Env) (o : Out) (s : Shared) (Q : Flow → Shared → Prop) : Prop :=
  ∀ h' tk, FrOk C X sc env o.1 h' → Kp (Yf C sc env) s.heap h' → match o.2 with
    | none => Q .next { s with heap := h', toks := tk }
    | some d => ∀ v, Rp X h' d v → Q (.ret v) { s with heap := h', toks := tk }
def SOk (C : Cfg) (k : Nat) (sc : Sc) (f : Ph → Stmt → Option Out) : Prop :=
  ∀ φ st o, f φ st = some o → ∀ (A : Around) (X : Addr → Prop) (env : Env) (s : Shared) (Q : Flow → Shared → Prop) (E : Value → Shared → Prop), Aok k A → FrOk C X sc env φ s.heap → ExR C X sc env o s Q → wpAny (model C.prog C.w) A (exec st env) Q E s
def BOk (C : Cfg) (k : Nat) (sc : Sc) (b : List Stmt) (f : Ph → Option Out) : Prop :=
  ∀ φ o, f φ = some o → ∀ (A : Around) (X : Addr → Prop) (env : Env) (s : Shared) (Q : Flow → Shared → Prop) (E : Value → Shared → Prop), Aok k A → FrOk C X sc env φ s.heap → ExR C X sc env o s Q → wpAny (model C.prog C.w) A (execs b env) Q E s

theorem exB_ok {f : Ph → Stmt → Option Out} (F : SOk C k sc f) : ∀ b, BOk C k sc b (exB f b)
  | [] => fun φ o e A X env s Q E K Z h => by
    simp only [exB, Option.some.injEq] at e; subst e
    exact wpAny_execs_nil (h s.heap s.toks Z .refl)
  | st :: r => fun φ o e A X env s Q E K Z h => by
    simp only [exB, Option.bind_eq_some_iff] at e
    obtain ⟨o1, h1, h2⟩ := e
    refine wpAny_execs_cons (F φ st o1 h1 A X env s _ E K Z fun h' tk Z' k' => ?_)
    obtain ⟨φ1, r1⟩ := o1
    cases r1 with
    | none => exact exB_ok F r φ1 o h2 A X env _ Q E K Z' fun h'' tk' Z'' k'' => h h'' tk' Z'' (k'.trans k'')
    | some d =>
      simp only [Option.some.injEq] at h2; subst h2
      exact fun v rv => h h' tk Z' k' v rv
end
end Mine
namespace Mine
open PySem PySem.Spec PySem.Calls PyProof.Rows PySem.W
set_option linter.unusedVariables false

section
variable {C : Cfg} {k : Nat} {sc : Sc} {env : Env} {φ : Ph} {A : Around} {X : Addr → Prop} {E : Value → Shared → Prop} {s : Shared} {h h' : Heap}

/-- one object apart is changed -/
theorem FrOk.other {a : Addr} (F : FrOk C X sc env φ h) (k : Kp (fun b => b = a) h h') (xa : X a) (hb : C.B.get? a = none) (hj : ¬ JA h a) (ex : ∃ o, h'.get? a = some o) (nl : a ≠ env.locals) (nc : ∀ x c, env.cells.lookup x = some c → c ≠ a) : FrOk C X sc env φ h' := by
  have H := F.st.H.step k fun b q => by subst q; exact ⟨hb, hj⟩
  refine ⟨⟨H, F.st.x.via H k fun b q _ => .inr (q ▸ ex), F.st.e.kpY k (fun b q => q ▸ xa) (Ne.symm nl) nc⟩, let ⟨m, n⟩ := F.ns; ⟨m, Ns_kp n k (Ne.symm nl)⟩, F.lB, fun y hy => ?_, F.ap⟩
  obtain ⟨c, v, b1, ⟨o, ho, hd⟩, b2⟩ := F.cx y hy
  exact ⟨c, v, b1, ⟨o, k _ _ (nc y c b1) ho, hd⟩, b2⟩
theorem FrOk.shr {X' : Addr → Prop} (F : FrOk C X' sc env φ h) (s : ∀ b, X b → X' b) (tb : ∀ b, C.Tb b → X b) (xl : X env.locals) (xc : ∀ y c, env.cells.lookup y = some c → X c) : FrOk C X sc env φ h :=
  ⟨⟨F.st.H, ⟨tb, fun b q => F.st.x.ex b (s b q)⟩, F.st.e.shr s xl xc⟩, F.ns, F.lB, F.cx, F.ap⟩
/-- a new object joins X -/
theorem FrOk.grow {a : Addr} (F : FrOk C X sc env φ h) (fr : h.get? a = none) (k : ∀ b o, h.get? b = some o → h'.get? b = some o) (H : HOk C h') (ex : ∃ o, h'.get? a = some o) : FrOk C (fun b => X b ∨ b = a) sc env φ h' := by
  have av : ∀ b o, h.get? b = some o → (X b ∨ b = a) → X b := fun b o e q => q.elim id fun q => by subst q; rw [fr] at e; cases e
  refine ⟨⟨H, ⟨fun b q => .inl (F.st.x.tb b q), fun b q => ?_⟩, (F.st.e.av av fun b q => .inl q).kpY (Y := fun _ => False) (fun b o _ e => k b o e) (fun _ q => q.elim) id fun _ _ _ q => q⟩, let ⟨m, n⟩ := F.ns; ⟨m, n.keeps k⟩, F.lB, fun y hy => ?_, F.ap⟩
  · rcases q with q | q
    · obtain ⟨o, e⟩ := F.st.x.ex b q; exact ⟨o, k _ _ e⟩
    · exact q ▸ ex
  · obtain ⟨c, v, b1, ⟨o, ho, hd⟩, b2⟩ := F.cx y hy
    exact ⟨c, v, b1, ⟨o, k _ _ ho, hd⟩, b2⟩
/-- an object that joined X is let go -/
theorem FrOk.letGo {a : Addr} (F : FrOk C (fun b => X b ∨ b = a) sc env φ h) (k : Kp (fun b => b = a) h h') (na : ∀ b, X b → b ≠ a) (tb : ∀ b, C.Tb b → X b) (xl : X env.locals) (xc : ∀ y c, env.cells.lookup y = some c → X c)
    (hb : C.B.get? a = none) (hj : ¬ JA h a) : FrOk C X sc env φ h' := by
  refine ⟨⟨F.st.H.step k fun b q => by subst q; exact ⟨hb, hj⟩, ⟨tb, fun b q => ?_⟩, (F.st.e.kpY k (fun b q => .inr q) (na _ xl) fun y c e => na _ (xc y c e)).shr (fun b q => .inl q) xl xc⟩, let ⟨m, n⟩ := F.ns; ⟨m, Ns_kp n k (na _ xl)⟩, F.lB, fun y hy => ?_, F.ap⟩
  · obtain ⟨o, e⟩ := F.st.x.ex b (.inl q); exact ⟨o, k _ _ (na b q) e⟩
  · obtain ⟨c, v, b1, ⟨o, ho, hd⟩, b2⟩ := F.cx y hy
    exact ⟨c, v, b1, ⟨o, k _ _ (na _ (xc y c b1)) ho, hd⟩, b2⟩
theorem FrOk.lt {a : Addr} (F : FrOk C X sc env φ h) (xa : X a) : a < h.objs.size := let ⟨o, e⟩ := F.st.x.ex a xa; Heap.lt_size e

theorem AssignComp_ok {elt : Expr} {g : Comprehension} {gs : List Comprehension} {scope : Scope} {pos p spos : Pos} {x : Str} {f : Expr → Option D} {f' : Ph → Expr → Option D} {c : D} {its l : List D} {Q : Flow → Shared → Prop} (K : Aok k A) (S : FrOk C X sc env φ s.heap)
    (hsw : swapsWith (.ListComp elt (g :: gs) scope pos) (some (.Name x p)) spos.line env = pure true) (hxk : kindSt sc x = true)
    (F0 : FOk C k X sc env φ f) (hset0 : ∀ env x, foldedSetIterable g.iter env x = pure x)
    (F : ∀ X env φ, FOk C k X scope.names env φ (f' φ)) (T : ∀ X env φ, TOk C k X scope.names env φ (f' φ)) (hset : ∀ φ e d, f' φ e = some d → ∀ env x, foldedSetIterable e env x = pure x)
    (hsc : scOk sc scope.names = true) (htg : targetsOk scope.names [] (g :: gs) = true) (hkind : scope.kind = .function) (ec : f g.iter = some c) (ei : itemsD c = some its) (el : evComp f' elt (g :: gs) its (keepFree scope.names φ) = some l) (hz : l.length ≤ 1000)
    (h : ExR C X sc env (setA x (.lst l) φ, none) s Q) : wpAny (model C.prog C.w) A (exec (.Assign [.Name x p] (.ListComp elt (g :: gs) scope pos) spos) env) Q E s := by
  have hfa : firstAsync (g :: gs) = false := by
    obtain ⟨x, px, it, ifs, rfl, _⟩ := targetsOk_cons htg; rfl
  have hfi : firstIter (g :: gs) env = eval g.iter env := by obtain ⟨x, px, it, ifs, rfl, _⟩ := targetsOk_cons htg; rfl
  rw [exec_Assign_Name_used _ _ _ _ hsw]
  refine wpAny_bind (wpAny_standAt (wpAny_bind ?_))
  show wpAny _ A (do let _ ← comprehension (.ListComp elt (g :: gs) scope pos) scope env _ (newList []) (firstAsync (g :: gs)) (firstIter (g :: gs) env) (some (assign (.Name x p) env))) _ _ s
  rw [hfa, hfi]
  refine wpAny_bind (wpAny_mono (wpAny_comprehension_free (use := some (assign (.Name x p) env)) (Q := fun _ s' => Q .next s') rfl (fun x => hset0 env x) (closure_eq fun p hp hk => S.st.e.cl p.1 ((scOk_free hsc p hp hk).1)) hkind (scOk_local hsc) ?_)
    (fun _ s' hq => wpAny_pure (wpAny_pure hq)) fun _ _ e => e)
  refine F0 g.iter c ec A s _ E K S.st fun v h1 tk1 H1 k1 r1 => ?_
  have S1 := S.kp H1 k1
  refine compBlock_ok (RR := fun acc Cc => compPost (model C.prog C.w) A E (some (assign (.Name x p) env)) (fun _ s' => Q .next s') acc Cc) K S1.st hsc htg hkind F T hset r1 ei el hz ?_
  intro Dl Cc h' tk m' H' k' r' n' f1 hne f2 hlt
  show wpAny _ A (assign (.Name x p) env (.ref Dl)) _ _ _
  have f1' : h1.get? Cc = none := f1
  have neX : ∀ b, X b → b ≠ Cc := fun b hb q => by obtain ⟨o, e⟩ := S1.st.x.ex b hb; rw [q, f1'] at e; cases e
  have S2 : FrOk C (fun b => X b ∨ b = Cc) sc env φ h' := by
    have av : ∀ b o, h1.get? b = some o → (X b ∨ b = Cc) → X b := fun b o e q => q.elim id fun q => by subst q; rw [f1'] at e; cases e
    have e1 := (S1.st.e.av av fun b q => .inl q).kp (fun b q => .inl (S1.st.x.tb b q)) k'
    have S2' := S1.kp H' k'
    refine ⟨⟨H', ⟨fun b q => .inl (S1.st.x.tb b q), fun b q => ?_⟩, e1⟩, S2'.ns, S2'.lB, S2'.cx, S2'.ap⟩
    rcases q with q | q
    · exact S2'.st.x.ex b q
    · exact q ▸ Ns_ex n'
  refine assign_ok (s := { s with heap := h', toks := tk }) S2 hxk r' fun h3 tk3 S3 k3 => ?_
  have nY : ¬ Yf C sc env Cc := by
    rintro (q | q | ⟨y, _, q⟩)
    · exact neX _ (S1.st.x.tb _ q) rfl
    · exact neX _ S1.st.e.xl q.symm
    · exact neX _ (S1.st.e.xc _ _ q) rfl
  refine ⟨m', Ns_kp n' k3 nY, fun h4 hs4 => ?_⟩
  have n3 := Ns_kp n' k3 nY
  have S4 := S3.letGo (.same hs4 rfl) neX S.st.x.tb S.st.e.xl S.st.e.xc (S1.st.H.baseNone f1') (Ns_nja n3)
  refine h h4 tk3 S4 fun b o nb eb => ?_
  have e1 := k1 b o (fun q => nb (.inl q)) eb
  have e2 := k' b o (fun q => nb (.inl q)) e1
  have e3 := k3 b o nb e2
  exact hs4.extBut b o (by rintro rfl; rw [f1'] at e1; cases e1) e3
end
end Mine
namespace Mine
open PySem PySem.Spec PySem.Calls PyProof.Rows PySem.W
set_option linter.unusedVariables false

theorem swaps_no {G : Fn} {n : Nat} {sc : Sc} {φ : Ph} {e : Expr} {d : D} {t : Option Expr} {ln : Nat} {env : Env} (h : ev G n sc φ e = some d) (hl : ∀ elt gens scope pos, e ≠ .ListComp elt gens scope pos) : swapsWith e t ln env = pure false := by
  cases e <;> first
    | rfl
    | exact absurd rfl (hl _ _ _ _)
    | (cases n <;> simp [ev] at h)

section
variable {C : Cfg} {k : Nat} {G : Fn}

theorem exS_ok (CO : CfgOk C) (GO : GOk C k G) (N : Nat) : ∀ n sc, SOk C k sc (exS G N n sc) := by
  intro n
  induction n with
  | zero => intro sc φ st o h; simp [exS] at h
  | succ n ih =>
    intro sc φ st o h0 A X env s Q E K Z h
    have EV := ev_ok CO GO N
    cases st with
    | Return e pos =>
      cases e with
      | none => simp [exS] at h0
      | some e =>
        simp only [exS, Option.map_eq_some_iff] at h0
        obtain ⟨d, h1, rfl⟩ := h0
        exact wpAny_Return_some (EV.1 X sc env φ e d h1 A s _ E K Z.st fun v h' tk H k1 r => h h' tk (Z.kp H k1) k1.yf v r)
    | «If» t b o' pos =>
      simp only [exS, Option.bind_eq_some_iff] at h0
      obtain ⟨d, h1, c, h2, h3⟩ := h0
      refine wpAny_If (EV.2 X sc env φ t d c h1 h2 A s _ E K Z.st fun h' tk H k1 => ?_)
      cases c with
      | true => simp only [if_true] at h3 ⊢; exact exB_ok (ih sc) b φ o h3 A X env _ Q E K (Z.kp H k1) fun h'' tk' Z' k2 => h h'' tk' Z' (k1.yf.trans k2)
      | false => simp only [Bool.false_eq_true, if_false] at h3 ⊢; exact exB_ok (ih sc) o' φ o h3 A X env _ Q E K (Z.kp H k1) fun h'' tk' Z' k2 => h h'' tk' Z' (k1.yf.trans k2)
    | Assign ts e pos =>
      have key : ∃ x p, ts = [.Name x p] := by
        cases ts with
        | nil => simp [exS] at h0
        | cons t r =>
          cases r with
          | cons => simp [exS] at h0
          | nil => cases t <;> first | exact ⟨_, _, rfl⟩ | simp [exS] at h0
      obtain ⟨x, p, rfl⟩ := key
      simp only [exS] at h0
      split at h0
      · rename_i hx
        simp only [Option.map_eq_some_iff] at h0
        obtain ⟨d, h1, rfl⟩ := h0
        have usual : swapsWith e (some (.Name x p)) pos.line env = pure false → wpAny (model C.prog C.w) A (exec (.Assign [.Name x p] e pos) env) Q E s := fun hs =>
          wpAny_Assign_Name (EV.1 X sc env φ e d h1 A s _ E K Z.st fun v h' tk H k1 r => store_ok (Z.kp H k1) hx r fun h'' tk' Z' k2 => h h'' tk' Z' (k1.yf.trans (k2.mono fun b q => .inr q))) hs
        by_cases hl : ∃ elt gens scope pos', e = .ListComp elt gens scope pos'
        · obtain ⟨elt, gens, scope, pos', rfl⟩ := hl
          cases N with
          | zero => simp [ev] at h1
          | succ N =>
            cases gens with
            | nil => simp [ev] at h1
            | cons g gs =>
              have EV' := ev_ok CO GO N
              have hb : ∃ b, swapsWith (.ListComp elt (g :: gs) scope pos') (some (.Name x p)) pos.line env = pure b := ⟨_, rfl⟩
              obtain ⟨b, hb⟩ := hb
              cases b with
              | false => exact usual hb
              | true =>
                simp only [ev] at h1
                split at h1
                · rename_i hc
                  simp only [Bool.and_eq_true, beq_iff_eq] at hc
                  simp only [Option.bind_eq_some_iff] at h1
                  obtain ⟨c, h1, its, h2, l, h3, h4⟩ := h1
                  split at h4
                  · rename_i hz
                    cases h4
                    exact AssignComp_ok K Z hb hx (EV'.1 X sc env φ) (ev_set h1) (fun X env φ => EV'.1 X _ env φ) (fun X env φ => EV'.2 X _ env φ) (fun φ e d he => ev_set he) hc.1.1 hc.1.2 hc.2 h1 h2 h3 (by simpa using hz) h
                  · cases h4
                · cases h1
        · exact usual (swaps_no h1 fun a b c d q => hl ⟨a, b, c, d, q⟩)
      · cases h0
    | While t b oe pos =>
      cases oe with
      | cons => simp [exS] at h0
      | nil =>
        simp only [exS] at h0
        refine wpAny_While ?_
        refine codeAny_whileLoop (fun m s' => ∃ φ' h' tk, s' = { s with heap := h', toks := tk } ∧ FrOk C X sc env φ' h' ∧ Kp (Yf C sc env) s.heap h' ∧ whileD (fun φ => (ev G N sc φ t).bind truthD) (exB (exS G N n sc) b) m φ' = some o) ?_ n ⟨φ, s.heap, s.toks, rfl, Z, .refl, h0⟩
        rintro m s' ⟨φ', h', tk, rfl, Z', k', e⟩
        cases m with
        | zero => simp [whileD] at e
        | succ m =>
          simp only [whileD, Option.bind_eq_some_iff] at e
          obtain ⟨c, ⟨d, h1, h2⟩, h3⟩ := e
          refine EV.2 X sc env φ' t d c h1 h2 A _ _ _ K Z'.st fun h'' tk' H k1 => ?_
          cases c with
          | false =>
            simp only [Bool.false_eq_true, if_false, Option.some.injEq] at h3 ⊢; subst h3
            exact wpAny_execs_nil (h h'' tk' (Z'.kp H k1) (k'.trans k1.yf))
          | true =>
            simp only [if_true, Option.bind_eq_some_iff] at h3 ⊢
            obtain ⟨⟨φ1, r1⟩, h4, h5⟩ := h3
            refine exB_ok (ih sc) b φ' _ h4 A X env _ _ _ K (Z'.kp H k1) fun h3 tk3 Z3 k3 => ?_
            cases r1 with
            | none => exact ⟨m, Nat.lt_succ_self _, φ1, h3, tk3, rfl, Z3, (k'.trans k1.yf).trans k3, h5⟩
            | some d =>
              simp only [Option.some.injEq] at h5; subst h5
              exact fun v rv => h h3 tk3 Z3 ((k'.trans k1.yf).trans k3) v rv
    | For tg it b oe pos =>
      have key : ∃ x p, tg = .Name x p := by cases tg <;> first | exact ⟨_, _, rfl⟩ | simp [exS] at h0
      obtain ⟨x, p, rfl⟩ := key
      cases oe with
      | cons => simp [exS] at h0
      | nil =>
        simp only [exS] at h0
        split at h0
        · rename_i hx
          simp only [Option.bind_eq_some_iff] at h0
          obtain ⟨d, h1, its, h2, h3⟩ := h0
          have hx' : kindSt sc x = true := by
            simp only [kindLo, Bool.and_eq_true] at hx
            simp only [kindSt, Bool.and_eq_true, Bool.or_eq_true]; exact ⟨hx.1, .inl hx.2⟩
          refine wpAny_For (EV.1 X sc env φ it d h1 A s _ E K Z.st fun v h1 tk1 H1 k1 r1 => ?_) (fun x => ev_set h1 env x)
          have Z1 := Z.kp H1 k1
          refine iter_ok (C := C) Z1.st.x r1 h2 fun ob _ hit => ?_
          have fr := get_size h1
          dsimp only at hit ⊢
          generalize hN : h1.objs.size = I at *
          have neX : ∀ b, X b → b ≠ I := fun b hb q => by obtain ⟨o, e⟩ := Z1.st.x.ex b hb; rw [q, fr] at e; cases e
          have itEx : ∀ {h i}, ItAt (fun b => X b ∨ b = I) h I its i → ∃ o, h.get? I = some o := fun q => by
            rcases q with ⟨_, _, _, ⟨o', e', _⟩, _⟩ | ⟨_, _, _, e'⟩
            · exact ⟨o', e'⟩
            · exact ⟨_, e'⟩
          have Z2 : FrOk C (fun b => X b ∨ b = I) sc env φ (h1.push ob) := Z1.grow fr (fun b o e => Heap.get?_push_of_some _ e) (H1.push ob) (itEx hit)
          have nYI : ¬ Yf C sc env I := by
            rintro (q | q | ⟨y, _, q⟩)
            · exact neX _ (Z1.st.x.tb _ q) rfl
            · exact neX _ Z1.st.e.xl q.symm
            · exact neX _ (Z1.st.e.xc _ _ q) rfl
          have IB := Z1.st.H.baseNone fr
          have back : ∀ {φ h h'}, FrOk C (fun b => X b ∨ b = I) sc env φ h → (∃ i, ItAt (fun b => X b ∨ b = I) h I its i) → Kp (fun b => b = I) h h' → FrOk C X sc env φ h' := fun F ⟨i, q⟩ kk =>
            F.letGo kk neX Z.st.x.tb Z.st.e.xl Z.st.e.xc IB q.nja
          refine codeAny_forLoop (fun m s' => ∃ i rest φ' h' tk, s' = { s with heap := h', toks := tk } ∧ FrOk C (fun b => X b ∨ b = I) sc env φ' h' ∧ ItAt (fun b => X b ∨ b = I) h' I its i ∧ (∀ j, its[i + j]? = rest[j]?) ∧ i + rest.length = its.length ∧
            Kp (fun b => Yf C sc env b ∨ b = I) s.heap h' ∧ forD (exB (exS G N n sc) b) x rest φ' = some o ∧ m = rest.length) ?_ its.length
            ⟨0, its, φ, h1.push ob, tk1, rfl, Z2, hit, fun j => by rw [Nat.zero_add], Nat.zero_add _, (k1.yf.mono fun b q => .inl q).trans (.push _), h3, rfl⟩
          rintro m s' ⟨i, rest, φ', h', tk, rfl, Z', it', hits, hlen, k', ef, rfl⟩
          cases rest with
          | nil =>
            simp only [forD, Option.some.injEq] at ef; subst ef
            refine it'.done (C := C) K.handled (by simpa using hlen) fun h'' kk => wpAny_execs_nil ?_
            refine h h'' tk (back Z' ⟨i, it'⟩ kk) fun b o nb eb => ?_
            have bI : b ≠ I := by rintro rfl; have := k1 _ _ (fun q => nb (.inl q)) eb; rw [fr] at this; cases this
            exact kk b o bI (k' b o (fun q => q.elim nb bI) eb)
          | cons d' rest =>
            simp only [forD, Option.bind_eq_some_iff] at ef
            obtain ⟨⟨φ1, r1'⟩, h4, h5⟩ := ef
            refine it'.item (C := C) (.inr rfl) (by have := hits 0; simpa using this) fun v h2 tk2 r2 it2 k2 => ?_
            have Z3 : FrOk C (fun b => X b ∨ b = I) sc env φ' h2 := Z'.other k2 (.inr rfl) IB it'.nja (itEx it2) (Ne.symm (neX _ Z1.st.e.xl)) fun y c hc => neX _ (Z1.st.e.xc y c hc)
            refine assign_ok (s := { s with heap := h2, toks := tk2 }) Z3 hx' r2 fun h3 tk3 Z4 k3 => ?_
            have it3 := it2.kp k3 (Yf_X Z3) nYI
            have k03 : Kp (fun b => Yf C sc env b ∨ b = I) s.heap h3 := (k'.trans (k2.mono fun b q => .inr q)).trans (k3.mono fun b q => .inl q)
            refine exB_ok (ih sc) b _ _ h4 A _ env _ _ _ K Z4 fun h5' tk5 Z5 k5 => ?_
            have it5 := it3.kp k5 (Yf_X Z4) nYI
            have k05 := k03.trans (k5.mono fun b (q : Yf C sc env b) => (.inl q : Yf C sc env b ∨ b = I))
            cases r1' with
            | none =>
              refine ⟨rest.length, Nat.lt_succ_self _, i + 1, rest, φ1, h5', tk5, rfl, Z5, it5, fun j => ?_, by simp only [List.length_cons] at hlen; omega, k05, h5, rfl⟩
              have := hits (j + 1)
              rw [List.getElem?_cons_succ] at this
              rw [← this]; congr 1; omega
            | some dd =>
              simp only [Option.some.injEq] at h5; subst h5
              refine fun v rv => h h5' tk5 (back Z5 ⟨_, it5⟩ .refl) (fun b o nb eb => ?_) v (rv.av fun b _ _ q => .inl q)
              have bI : b ≠ I := by rintro rfl; have := k1 _ _ (fun q => nb (.inl q)) eb; rw [fr] at this; cases this
              exact k05 b o (fun q => q.elim nb bI) eb
        · cases h0
    | _ => simp [exS] at h0
end
end Mine
namespace Mine
open PySem PySem.Spec PySem.Calls PyProof.Rows PySem.W
set_option linter.unusedVariables false

theorem binds_look {X : Addr → Prop} {h : Heap} {kd : Str → Option NameKind} {x : Str} : ∀ {ps : List Str} {ds : List D} {vs : List Value} {d : D}, ps.Nodup → RpL X h ds vs → (ps.zip ds).lookup x = some d →
    ∃ v, Rp X h d v ∧ (kd x = some .local → ∀ m, bindL kd (ps.zip vs) m x = some v) ∧ (kd x = some .cell → ∀ m, bindC kd (ps.zip vs) m x = some v)
  | [], _, _, _, _, _, e => by simp at e
  | _ :: _, [], _, _, _, _, e => by simp at e
  | p :: ps, d0 :: ds, vs, d, nd, r, e => by
    simp only [RpL] at r
    obtain ⟨v, vs, rfl, r1, r2⟩ := r
    rw [List.nodup_cons] at nd
    have keepL : ∀ {l : List (Str × Value)} {m : Str → Option Value}, (∀ q ∈ l, q.1 ≠ x) → bindL kd l m x = m x := by
      intro l
      induction l with
      | nil => intro m _; rfl
      | cons q l ih =>
        intro m hq
        obtain ⟨n, u⟩ := q
        unfold bindL
        rw [ih fun q hq' => hq q (List.mem_cons_of_mem _ hq')]
        split
        · simp [Ne.symm (hq (n, u) List.mem_cons_self)]
        · rfl
    have keepC : ∀ {l : List (Str × Value)} {m : Str → Option Value}, (∀ q ∈ l, q.1 ≠ x) → bindC kd l m x = m x := by
      intro l
      induction l with
      | nil => intro m _; rfl
      | cons q l ih =>
        intro m hq
        obtain ⟨n, u⟩ := q
        unfold bindC
        rw [ih fun q hq' => hq q (List.mem_cons_of_mem _ hq')]
        split
        · rfl
        · simp [Ne.symm (hq (n, u) List.mem_cons_self)]
    rw [List.zip_cons_cons, List.lookup_cons] at e
    by_cases hx : x = p
    · subst hx
      simp only [beq_self_eq_true, Option.some.injEq] at e; subst e
      have no : ∀ q ∈ ps.zip vs, q.1 ≠ x := fun q hq e => nd.1 (e ▸ (List.of_mem_zip hq).1)
      refine ⟨v, r1, fun hk m => ?_, fun hk m => ?_⟩
      · rw [List.zip_cons_cons, bindL, keepL no, if_pos hk]; simp
      · rw [List.zip_cons_cons, bindC, keepC no, if_neg (by rw [hk]; decide)]; simp
    · rw [beq_eq_false_iff_ne.mpr hx] at e
      obtain ⟨u, ru, a, b⟩ := binds_look (kd := kd) nd.2 r2 e
      refine ⟨u, ru, fun hk m => ?_, fun hk m => ?_⟩
      · rw [List.zip_cons_cons, bindL]; exact a hk _
      · rw [List.zip_cons_cons, bindC]; exact b hk _

/-- the names of a def's block: no free ones; its parameters local or in a cell -/
def defSc (sc : Sc) (ps : List Str) : Bool := sc.all (fun p => p.2 != .free) && ps.all (kindSt sc) && decide ps.Nodup && decide ((cellsFrom 0 sc []).map (·.1)).Nodup

section
variable {C : Cfg} {k : Nat}

/-- a def's frame is made -/
theorem frame_ok {fd : FuncData} {ps : List Str} {ds : List D} {vs : List Value} {X : Addr → Prop} {env : Env} {s s' : Shared} (hk : fd.scope.kind = .function) (hg : fd.globals = mainGlobals) (hbl : fd.builtins = builtinsNs) (hsc : defSc fd.scope.names ps = true)
    (H : HOk C s.heap) (x : XOk C X s.heap) (r : RpL X s.heap ds vs) {q : Str} {fn : Option Addr} {code : Value}
    (he : env = newEnv fd.scope s.heap.objs.size fd.globals (cellsFrom (s.heap.objs.size + 1) fd.scope.names []) q fn code none fd.builtins)
    (i : InCallC s env.locals (bindL env.kindOf (ps.zip vs) fun _ => none) env.cells (bindC env.kindOf (ps.zip vs) fun _ => none) s') :
    FrOk C (fun b => X b ∨ b = env.locals ∨ ∃ y, env.cells.lookup y = some b) fd.scope.names env (ps.zip ds) s'.heap ∧ (∀ b, (b = env.locals ∨ ∃ y, env.cells.lookup y = some b) → s.heap.get? b = none) := by
  simp only [defSc, Bool.and_eq_true, decide_eq_true_eq] at hsc
  obtain ⟨⟨⟨hnf, hps⟩, hnd⟩, hcn⟩ := hsc
  have elo : env.locals = s.heap.objs.size := by rw [he]; rfl
  have esc : env.scope = fd.scope := by rw [he]; rfl
  have ecl : env.cells = cellsFrom (s.heap.objs.size + 1) fd.scope.names [] := by rw [he]; rfl
  have kd : ∀ y, env.kindOf y = fd.scope.names.lookup y := fun y => by show env.scope.names.lookup y = _; rw [esc]
  have frL : s.heap.get? env.locals = none := by rw [elo]; exact get_size _
  have frC : ∀ y c, env.cells.lookup y = some c → s.heap.get? c = none := fun y c hc => by
    have := i.above y c (mem_of_lookup hc)
    cases qq : s.heap.get? c with
    | none => rfl
    | some o =>
      have h1 : c < s.heap.objs.size := Heap.lt_size qq
      rw [elo] at this
      exact absurd h1 (Nat.lt_asymm this)
  have fr : ∀ b, (b = env.locals ∨ ∃ y, env.cells.lookup y = some b) → s.heap.get? b = none := fun b q => by
    rcases q with q | ⟨y, q⟩
    · exact q ▸ frL
    · exact frC y b q
  have H' : HOk C s'.heap := H.keeps i.toInCall.keep
  have noTb : ∀ b, s.heap.get? b = none → ¬ C.Tb b := fun b e t => by obtain ⟨o, eo⟩ := H.tbEx t; rw [e] at eo; cases eo
  have nofree : ∀ y, fd.scope.names.lookup y ≠ some .free := fun y e => by
    have := List.all_eq_true.mp hnf _ (mem_lookup e)
    simp at this
  have hcell : ∀ y, fd.scope.names.lookup y = some .cell → ∃ c, env.cells.lookup y = some c := fun y e => by
    have := cellsFrom_some fd.scope.names (s.heap.objs.size + 1) [] (.inl e)
    rw [← ecl] at this
    exact Option.isSome_iff_exists.mp this
  have av : ∀ b o, s.heap.get? b = some o → (X b ∨ b = env.locals ∨ ∃ y, env.cells.lookup y = some b) → X b := fun b o e q => q.elim id fun q => by rw [fr b q] at e; cases e
  refine ⟨⟨⟨H', ⟨fun b q => .inl (x.tb b q), fun b q => ?_⟩, ⟨by rw [esc]; exact hk, by rw [he]; exact hg, by rw [he]; exact hbl, noTb _ frL, .inr (.inl rfl), fun y c hc => noTb _ (frC y c hc), fun y c hc => .inr (.inr ⟨y, hc⟩), fun y => .inl (kd y), fun y hy => ?_, fun y d ey => ?_⟩⟩,
    ⟨_, i.toInCall.ns⟩, H.baseNone frL, fun y hy => ?_, fun y z c hy hz => name_of_addr i.apart (mem_of_lookup hy) (mem_of_lookup hz)⟩, fr⟩
  · rcases q with q | q | ⟨y, q⟩
    · obtain ⟨o, e⟩ := x.ex b q; exact ⟨o, i.toInCall.keep _ _ e⟩
    · exact q ▸ Ns_ex i.toInCall.ns
    · obtain ⟨o, e, _⟩ := i.cell y b q; exact ⟨o, e⟩
  · rcases hy with hy | hy
    · exact hcell y hy
    · exact absurd hy (nofree y)
  · obtain ⟨v, rv, a, b⟩ := binds_look (kd := env.kindOf) hnd r ey
    have hy : y ∈ ps := by
      have := mem_of_lookup ey
      exact (List.of_mem_zip this).1
    have hks := List.all_eq_true.mp hps y hy
    simp only [kindSt, okName, Bool.and_eq_true, Bool.not_eq_true', Bool.or_eq_true, beq_iff_eq] at hks
    refine ⟨hks.1.1, hks.1.2, v, (rv.av (X' := fun b => X b ∨ b = env.locals ∨ ∃ y, env.cells.lookup y = some b) av).kp (Y := fun _ => False) (fun b o _ e => i.toInCall.keep b o e) (fun _ q => q.elim), ?_⟩
    rcases hks.2 with q | q
    · exact .inl ⟨q, _, i.toInCall.ns, a (by rw [kd]; exact q) _⟩
    · obtain ⟨c, hc⟩ := hcell y q
      refine .inr ⟨.inl q, c, hc, ?_⟩
      have := i.cell y c hc
      rw [b (by rw [kd]; exact q)] at this
      exact this
  · obtain ⟨c, hc⟩ := hcell y hy
    exact ⟨c, _, hc, i.cell y c hc, H.baseNone (frC y c hc)⟩

/-- a def of the text without writes: its contract by its body's evaluation -/
structure DefAt (C : Cfg) (a : Addr) (fd : FuncData) (body : List Stmt) : Prop where
  ob : ∃ o, C.B.get? a = some o ∧ o.data = .func fd
  co : fd.scope.isCoroutine = false
  gen : fd.scope.isGenerator = false
  kind : fd.scope.kind = .function
  body : fd.body = .stmts body
  clo : fd.closure = []
  gl : fd.globals = mainGlobals
  bl : fd.builtins = builtinsNs
  cd : C.B.CodeRec fd.code fd.qualname

theorem enter_ok {a : Addr} {fd : FuncData} {body : List Stmt} {ps : List Str} {ds : List D} {vs vs' : List Value} {X : Addr → Prop} {A : Around} {s : Shared} {Q E : Value → Shared → Prop} (CO : CfgOk C) (DA : DefAt C a fd body)
    (hsc : defSc fd.scope.names ps = true) (K : Aok (k + 1) A) (H : HOk C s.heap) (x : XOk C X s.heap) (r : RpL X s.heap ds vs') (hb : BindsTo s fd ⟨vs, []⟩ (ps.zip vs'))
    (h : ∀ (env : Env) (s' : Shared), (∃ h' tk, s' = { s with heap := h', toks := tk }) → (∀ b o, s.heap.get? b = some o → s'.heap.get? b = some o) → (∀ b, (b = env.locals ∨ ∃ y, env.cells.lookup y = some b) → s.heap.get? b = none) →
      FrOk C (fun b => X b ∨ b = env.locals ∨ ∃ y, env.cells.lookup y = some b) fd.scope.names env (ps.zip ds) s'.heap → env.code = fd.code → env.qual = fd.qualname ++ ".<locals>." →
      wpAny (model C.prog C.w) (A.deeper env) (execs body env) (fun f s'' => Q (match f with | .ret v => v | _ => .none) s'') (fun _ _ => False) s') :
    wpAny (model C.prog C.w) A (call (.ref a) vs) Q E s := by
  obtain ⟨o, ho, hd⟩ := DA.ob
  refine wpAny_call (codeAny_call_function (body := body) (by have := K.depth; omega) (H.base _ _ ho) hd DA.co DA.gen DA.body (DA.cd.keeps H.base) ?_)
  refine hb _ _ _ _ ?_
  rw [DA.clo]
  have hsc' := hsc
  simp only [defSc, Bool.and_eq_true, decide_eq_true_eq] at hsc'
  refine wpAny_newFunctionEnv_cells DA.kind (fun y hy => ?_) fun env he s' i => ?_
  · have : y.1 ∈ ps := (List.of_mem_zip hy).1
    have hks := List.all_eq_true.mp hsc'.1.1.2 _ this
    simp only [kindSt, Bool.and_eq_true, Bool.or_eq_true, beq_iff_eq] at hks
    exact hks.2.imp id fun q => ⟨q, cellsFrom_some _ _ _ (.inl q)⟩
  · obtain ⟨F, fr⟩ := frame_ok DA.kind DA.gl DA.bl hsc H x r he i
    refine ⟨(CO.nolimit.keeps H.base).keeps i.toInCall.keep, codeAny_func ?_⟩
    exact wpAny_mono (h env s' i.toInCall.same i.toInCall.keep fr F (by rw [he]; rfl) (by rw [he]; rfl)) (fun f s'' q => q) fun _ _ q => q.elim

theorem fun_ok {G : Fn} {N n : Nat} {a : Addr} {fd : FuncData} {body : List Stmt} {ps : List Str} {ds ex : List D} {r : D} {φ' : Ph} {exv : List Value} (CO : CfgOk C) (GO : GOk C k G) (DA : DefAt C a fd body)
    (hsc : defSc fd.scope.names ps = true) (hex : ∀ X h, RpL X h ex exv) (hb : ∀ (vs : List Value) (s : Shared), HOk C s.heap → vs.length = ds.length → BindsTo s fd ⟨vs, []⟩ (ps.zip (vs ++ exv)))
    (ev : exB (exS G N n fd.scope.names) body (ps.zip (ds ++ ex)) = some (φ', some r)) : CallOk C (k + 1) (.ref a) ds r := by
  intro A X vs s Q E K H x rv h
  refine enter_ok CO DA hsc K H x (rv.append (hex X _)) (hb vs s H rv.length) fun env s' hs kp fr F _ _ => ?_
  obtain ⟨h1, tk1, rfl⟩ := hs
  refine exB_ok (exS_ok CO GO N n _) body _ _ ev (A.deeper env) _ env _ _ _ K.deeper F fun h' tk Z k' v rv' => ?_
  refine h v h' tk Z.st.H (fun b o nb eb => k' b o ?_ (kp b o eb)) (rv'.av fun b _ _ q => .inl q)
  rintro (q | q | ⟨y, _, q⟩)
  · exact nb q
  · rw [fr b (.inl q)] at eb; cases eb
  · rw [fr b (.inr ⟨y, q⟩)] at eb; cases eb
end
end Mine
namespace Mine
open PySem PySem.Spec PySem.Calls PyProof.Rows PySem.W
set_option linter.unusedVariables false

def intsOf : List D → Option (List Int)
  | [] => some []
  | .int i :: r => (intsOf r).map (i :: ·)
  | _ :: _ => none
theorem intsOf_eq : ∀ {l : List D} {ns : List Int}, intsOf l = some ns → l = ns.map .int
  | [], ns, h => by simp only [intsOf, Option.some.injEq] at h; subst h; rfl
  | d :: r, ns, h => by
    cases d <;> simp only [intsOf, Option.map_eq_some_iff] at h <;> try cases h
    rename_i a hh
    obtain ⟨h1, rfl⟩ := hh
    rw [intsOf_eq h1]; rfl

def insertZ (x : Int) : List Int → List Int
  | [] => [x]
  | y :: r => if x ≤ y then x :: y :: r else y :: insertZ x r
def sortZ : List Int → List Int
  | [] => []
  | x :: r => insertZ x (sortZ r)
theorem insertZ_perm (x : Int) : ∀ l, (insertZ x l).Perm (x :: l)
  | [] => .refl _
  | y :: r => by
    unfold insertZ
    split
    · exact .refl _
    · exact ((insertZ_perm x r).cons y).trans (.swap x y r)
theorem sortZ_perm : ∀ l, (sortZ l).Perm l
  | [] => .refl _
  | x :: r => (insertZ_perm x _).trans ((sortZ_perm r).cons x)
theorem insertZ_sorted (x : Int) : ∀ {l : List Int}, l.Pairwise (· ≤ ·) → (insertZ x l).Pairwise (· ≤ ·)
  | [], _ => by simp [insertZ]
  | y :: r, h => by
    rw [List.pairwise_cons] at h
    unfold insertZ
    split
    · rename_i q
      refine List.pairwise_cons.mpr ⟨fun z hz => ?_, List.pairwise_cons.mpr h⟩
      rcases List.mem_cons.mp hz with rfl | hz
      · exact q
      · exact Int.le_trans q (h.1 z hz)
    · rename_i q
      refine List.pairwise_cons.mpr ⟨fun z hz => ?_, insertZ_sorted x h.2⟩
      rcases List.mem_cons.mp ((insertZ_perm x r).mem_iff.mp hz) with rfl | hz
      · omega
      · exact h.1 z hz
theorem sortZ_sorted : ∀ l, (sortZ l).Pairwise (· ≤ ·)
  | [] => .nil
  | x :: r => insertZ_sorted x (sortZ_sorted r)
theorem sorted_unique {a b : List Int} (ha : a.Pairwise (· ≤ ·)) (hb : b.Pairwise (· ≤ ·)) (h : a.Perm b) : a = b :=
  h.eq_of_pairwise (fun x y _ _ h1 h2 => Int.le_antisymm h1 h2) ha hb

section
variable {C : Cfg} {k : Nat} {X : Addr → Prop} {h : Heap}
theorem RpL.ints : ∀ {ns : List Int} {vs : List Value}, RpL X h (ns.map .int) vs → IntsAre vs ns
  | [], _, r => by simp only [List.map_nil, RpL] at r; subst r; exact .nil
  | n :: ns, _, r => by
    simp only [List.map_cons, RpL, Rp] at r
    obtain ⟨v, vs, rfl, ⟨t, rfl⟩, r⟩ := r
    exact .cons n t (RpL.ints r)
theorem RpL.of_ints : ∀ {ns : List Int} {vs : List Value}, IntsAre vs ns → RpL X h (ns.map .int) vs
  | [], vs, r => by cases r; simp [RpL]
  | n :: ns, vs, r => by
    cases r with
    | cons _ _ r => simp only [List.map_cons, RpL, Rp]; exact ⟨_, _, rfl, ⟨_, rfl⟩, RpL.of_ints r⟩

theorem keep_machine {fv : Value} (hf : ∀ a, fv ≠ .ref a) : Keepable C fv := fun h _ => ⟨.machine, .inr (.inl rfl), Looks.of_pure (by
  unfold keeperOf
  cases fv <;> first | rfl | exact absurd rfl (hf _))⟩
theorem keep_def {a : Addr} {fd : FuncData} {body : List Stmt} (d : DefAt C a fd body) : Keepable C (.ref a) := fun h H => ⟨.frame, .inl rfl, by
  obtain ⟨o, ho, hd⟩ := d.ob
  refine (Looks.ld (part := none) (H.base _ _ ho)).andThen ?_
  rw [hd]
  exact .now⟩

theorem one_arg {d : D} {vs : List Value} (r : RpL X h [d] vs) : ∃ v, vs = [v] ∧ Rp X h d v := by
  simp only [RpL] at r
  obtain ⟨v, w, rfl, a, rfl⟩ := r
  exact ⟨v, rfl, a⟩
theorem two_args {d e : D} {vs : List Value} (r : RpL X h [d, e] vs) : ∃ v u, vs = [v, u] ∧ Rp X h d v ∧ Rp X h e u := by
  simp only [RpL] at r
  obtain ⟨v, w, rfl, a, u, w', rfl, b, rfl⟩ := r
  exact ⟨v, u, rfl, a, b⟩

theorem len_ok {l : List D} (hz : l.length ≤ 1000) : CallOk C k (.builtin "len") [.lst l] (.int l.length) := by
  intro A X vs s Q E K H x r h
  obtain ⟨v, rfl, r1⟩ := one_arg r
  obtain ⟨a, vs, n, rfl, _, g, r⟩ := r1.lst_inv
  have hl := r.length
  simp only [Array.length_toList] at hl
  refine call_len_list (items := vs) ⟨_, g, rfl, n, rfl⟩ (by omega) ?_
  rw [hl]
  exact h.same H (by simp only [Rp]; exact ⟨_, rfl⟩) _
theorem range1_ok {n : Int} (hz : small n = true) : CallOk C k (.type "range") [.int n] (.rng 0 n.toNat) := by
  intro A X vs s Q E K H x r h
  obtain ⟨v, rfl, r1⟩ := one_arg r
  obtain ⟨t, rfl⟩ := r1.int_inv
  simp only [small, Bool.and_eq_true, decide_eq_true_eq] at hz
  refine call_range_1 (h _ _ _ (H.push _) (.push _) ?_)
  simp only [Rp]
  exact ⟨_, n, _, _, _, rfl, x.fresh, Heap.get?_push_size _ rfl, by omega, hz.1, hz.2⟩
theorem range2_ok {a b : Int} (hz : small b = true) : CallOk C k (.type "range") [.int a, .int b] (.rng a (b - a).toNat) := by
  intro A X vs s Q E K H x r h
  obtain ⟨v, u, rfl, r1, r2⟩ := two_args r
  obtain ⟨t, rfl⟩ := r1.int_inv
  obtain ⟨t', rfl⟩ := r2.int_inv
  simp only [small, Bool.and_eq_true, decide_eq_true_eq] at hz
  refine call_range_2 (h _ _ _ (H.push _) (.push _) ?_)
  simp only [Rp]
  exact ⟨_, b, _, _, _, rfl, x.fresh, Heap.get?_push_size _ rfl, rfl, hz.1, hz.2⟩
theorem sorted_ok {ns : List Int} (hz : ns.length < 64) : CallOk C k (.builtin "sorted") [.lst (ns.map .int)] (.lst ((sortZ ns).map .int)) := by
  intro A X vs s Q E K H x r h
  obtain ⟨v, rfl, r1⟩ := one_arg r
  obtain ⟨a, vs, n, rfl, _, g, r⟩ := r1.lst_inv
  have hl := r.length
  rw [List.length_map] at hl
  refine sorted_ints (vs := vs.toList) ⟨_, g, rfl, n, by simp⟩ r.ints (by omega) fun out ns' hI hp hs => ?_
  obtain ⟨e, he⟩ := sortedAll_at s.heap vs.toList out
  have kk : ∀ b o, s.heap.get? b = some o → (sortedAll s.heap vs.toList out).get? b = some o := fun b o eb => sortedAll_old eb
  have en : ns' = sortZ ns := sorted_unique hs (sortZ_sorted ns) (hp.trans (sortZ_perm ns).symm)
  refine h _ _ s.toks (H.keeps kk) (.of kk) ?_
  simp only [Rp]
  refine ⟨_, out, e, rfl, fun q => ?_, he, en ▸ RpL.of_ints hI⟩
  obtain ⟨o, eo⟩ := x.ex _ q
  have : s.heap.objs.size + 1 < s.heap.objs.size := Heap.lt_size eo
  omega
end
end Mine
namespace Mine
open PySem PySem.Spec PySem.Calls PyProof.Rows PySem.W
set_option linter.unusedVariables false
set_option maxRecDepth 100000

theorem lookup_none_of {x : Str} : ∀ {l : List (Str × Value)}, (∀ q ∈ l, q.1 ≠ x) → l.lookup x = none
  | [], _ => rfl
  | q :: l, h => by
    rw [show q :: l = (q.1, q.2) :: l from rfl, List.lookup_cons, beq_eq_false_iff_ne.mpr (Ne.symm (h q List.mem_cons_self))]
    exact lookup_none_of fun q hq => h q (List.mem_cons_of_mem _ hq)
theorem zip_look {X : Addr → Prop} {h : Heap} {x : Str} : ∀ {ps : List Str} {ds : List D} {vs : List Value} {d : D}, ps.Nodup → RpL X h ds vs → (ps.zip ds).lookup x = some d →
    ∃ v, Rp X h d v ∧ (ps.zip vs).reverse.lookup x = some v
  | [], _, _, _, _, _, e => by simp at e
  | _ :: _, [], _, _, _, _, e => by simp at e
  | p :: ps, d0 :: ds, vs, d, nd, r, e => by
    simp only [RpL] at r
    obtain ⟨v, vs, rfl, r1, r2⟩ := r
    rw [List.nodup_cons] at nd
    rw [List.zip_cons_cons, List.lookup_cons] at e
    rw [List.zip_cons_cons, List.reverse_cons, List.lookup_append]
    by_cases hx : x = p
    · subst hx
      simp only [beq_self_eq_true, Option.some.injEq] at e; subst e
      have no : ((ps.zip vs).reverse).lookup x = none := lookup_none_of fun q hq e => nd.1 (e ▸ (List.of_mem_zip (List.mem_reverse.mp hq)).1)
      exact ⟨v, r1, by rw [no]; simp⟩
    · rw [beq_eq_false_iff_ne.mpr hx] at e
      obtain ⟨u, ru, a⟩ := zip_look nd.2 r2 e
      exact ⟨u, ru, by rw [a]; rfl⟩
theorem lookup_app {α : Type} {x : Str} {l r : List (Str × α)} : (l ++ r).lookup x = (l.lookup x).or (r.lookup x) := List.lookup_append

/-- a nested def's object -/
structure NestAt (h : Heap) (f : Addr) (fd : FuncData) (body : List Stmt) : Prop where
  ob : ∃ o, h.get? f = some o ∧ o.data = .func fd
  co : fd.scope.isCoroutine = false
  gen : fd.scope.isGenerator = false
  kind : fd.scope.kind = .function
  body : fd.body = .stmts body
  gl : fd.globals = mainGlobals
  bl : fd.builtins = builtinsNs
  cd : h.CodeRec fd.code fd.qualname
  nc : ∀ x ∈ fd.scope.names, x.2 ≠ .cell

section
variable {C : Cfg} {k : Nat}

theorem enterN_ok {f : Addr} {fd : FuncData} {body : List Stmt} {ps : List Str} {ds : List D} {vs : List Value} {φc : Ph} {X : Addr → Prop} {A : Around} {s : Shared} {Q E : Value → Shared → Prop} (CO : CfgOk C) (DA : NestAt s.heap f fd body)
    (hnd : ps.Nodup) (hps : ∀ p ∈ ps, okName p = true ∧ fd.scope.names.lookup p = some .local) (K : Aok (k + 1) A) (H : HOk C s.heap) (x : XOk C X s.heap) (r : RpL X s.heap ds vs) (hb : bindArgs fd ⟨vs, []⟩ = pure (ps.zip vs))
    (hcx : ∀ y c, fd.closure.lookup y = some c → X c ∧ ¬ C.Tb c) (hcl : ∀ y, fd.scope.names.lookup y = some .free → ∃ c, fd.closure.lookup y = some c) (hap : ∀ x y c, fd.closure.lookup x = some c → fd.closure.lookup y = some c → x = y)
    (hφ : ∀ y d, φc.lookup y = some d → okName y = true ∧ fd.scope.names.lookup y = some .free ∧ ∃ c v, fd.closure.lookup y = some c ∧ s.heap.IsCell c (some v) ∧ Rp X s.heap d v)
    (h : ∀ (env : Env) (s' : Shared), (∃ h' tk, s' = { s with heap := h', toks := tk }) → (∀ b o, s.heap.get? b = some o → s'.heap.get? b = some o) → s.heap.get? env.locals = none →
      FrOk C (fun b => X b ∨ b = env.locals) fd.scope.names env (ps.zip ds ++ φc) s'.heap → env.cells = fd.closure →
      wpAny (model C.prog C.w) (A.deeper env) (execs body env) (fun f s'' => Q (match f with | .ret v => v | _ => .none) s'') (fun _ _ => False) s') :
    wpAny (model C.prog C.w) A (call (.ref f) vs) Q E s := by
  obtain ⟨o, ho, hd⟩ := DA.ob
  refine wpAny_call (codeAny_call_function (body := body) (by have := K.depth; omega) ho hd DA.co DA.gen DA.body DA.cd ?_)
  rw [hb]
  refine wpAny_pure (wpAny_newFunctionEnv DA.nc (fun q hq => (hps _ (List.of_mem_zip hq).1).2) (fun h1 hn hs => ?_) DA.kind)
  have kp : ∀ b o, s.heap.get? b = some o → h1.get? b = some o := fun b o e => hs.extBut b o (Nat.ne_of_lt (Heap.lt_size e)) (Heap.get?_push_of_some _ e)
  have kK : Kp (fun _ => False) s.heap h1 := fun b o _ e => kp b o e
  have H1 : HOk C h1 := H.keeps kp
  have fr : s.heap.get? s.heap.objs.size = none := get_size _
  have noTb : ¬ C.Tb s.heap.objs.size := fun t => by obtain ⟨o, eo⟩ := H.tbEx t; rw [fr] at eo; cases eo
  have av : ∀ b o, s.heap.get? b = some o → (X b ∨ b = s.heap.objs.size) → X b := fun b o e q => q.elim id fun q => by subst q; rw [fr] at e; cases e
  refine ⟨(CO.nolimit.keeps H.base).keeps kp, codeAny_func ?_⟩
  refine wpAny_mono (h _ { s with heap := h1, toks := s.toks + (ps.zip vs).length } ⟨_, _, rfl⟩ kp fr ?_ rfl) (fun f s'' q => q) fun _ _ q => q.elim
  refine ⟨⟨H1, ⟨fun b q => .inl (x.tb b q), fun b q => ?_⟩, ⟨DA.kind, DA.gl, DA.bl, noTb, .inr rfl, fun y c hc => (hcx y c hc).2, fun y c hc => .inl (hcx y c hc).1, fun y => .inl rfl, fun y hy => ?_, fun y d ey => ?_⟩⟩, ⟨_, hn⟩, H.baseNone fr, fun y hy => ?_, hap⟩
  · rcases q with q | q
    · obtain ⟨o, e⟩ := x.ex b q; exact ⟨o, kp _ _ e⟩
    · exact q ▸ Ns_ex hn
  · rcases hy with hy | hy
    · exact absurd rfl (DA.nc _ (mem_lookup hy))
    · exact hcl y hy
  · rw [lookup_app] at ey
    cases hq : (ps.zip ds).lookup y with
    | some d' =>
      rw [hq] at ey; cases ey
      obtain ⟨v, rv, a⟩ := zip_look hnd r hq
      have hy := hps y (List.of_mem_zip (mem_of_lookup hq)).1
      have hok := hy.1
      simp only [okName, Bool.and_eq_true, Bool.not_eq_true'] at hok
      exact ⟨hok.1, hok.2, v, (rv.av (X' := fun b => X b ∨ b = s.heap.objs.size) av).kp kK (fun _ q => q.elim), .inl ⟨hy.2, _, hn, a⟩⟩
    | none =>
      rw [hq] at ey
      obtain ⟨hok, hf, c, v, h1, h2, h3⟩ := hφ y d ey
      simp only [okName, Bool.and_eq_true, Bool.not_eq_true'] at hok
      exact ⟨hok.1, hok.2, v, (h3.av (X' := fun b => X b ∨ b = s.heap.objs.size) av).kp kK (fun _ q => q.elim), .inr ⟨.inr hf, c, h1, h2.keeps kp⟩⟩
  · exact absurd rfl (DA.nc _ (mem_lookup hy))
end
end Mine
namespace Mine
open PySem PySem.Spec PySem.Calls PyProof.Rows PySem.W
set_option linter.unusedVariables false
set_option maxRecDepth 100000

mutual
/-- no list within -/
def solid : D → Bool
  | .none => true
  | .bool _ => true
  | .int _ => true
  | .tup l => solidL l
  | .adr _ => true
  | _ => false
def solidL : List D → Bool
  | [] => true
  | d :: l => solid d && solidL l
end

/-- a mutable list: its name, its address, what it holds -/
abbrev Ms := List (Str × Addr × List D)
def Md (ms : Ms) (b : Addr) : Prop := ∃ q ∈ ms, q.2.1 = b
def Xm (X : Addr → Prop) (ms : Ms) (b : Addr) : Prop := X b ∨ Md ms b
def view (ms : Ms) (φ : Ph) : Ph := ms.map (fun q => (q.1, D.lst q.2.2)) ++ φ
def HoldsL (X : Addr → Prop) (h : Heap) (a : Addr) (l : List D) : Prop := ∃ vs n, h.get? a = some (lstO vs n) ∧ RpL X h l vs.toList

mutual
theorem Rp.solid {X : Addr → Prop} {ms : Ms} {h : Heap} (hm : ∀ q ∈ ms, ∃ vs n, h.get? q.2.1 = some (lstO vs n)) : ∀ {d : D} {v : Value}, Mine.solid d = true → Rp X h d v → Rp (Xm X ms) h d v
  | .none, _, _, x => x
  | .bool _, _, _, x => x
  | .int _, _, _, x => x
  | .adr _, _, _, x => x
  | .tup l, _, e, x => by
    simp only [Rp] at x ⊢
    simp only [Mine.solid] at e
    obtain ⟨a, vs, n, e1, hx, g, r⟩ := x
    refine ⟨a, vs, n, e1, fun q => ?_, g, RpL.solid hm e r⟩
    rcases q with q | ⟨q, hq, e2⟩
    · exact hx q
    · obtain ⟨ws, m, e3⟩ := hm q hq
      rw [e2, g] at e3
      have := congrArg (Option.map Obj.cls) e3
      simp at this
  | .lst _, _, e, _ => by simp [Mine.solid] at e
  | .rng _ _, _, e, _ => by simp [Mine.solid] at e
  | .dct _, _, e, _ => by simp [Mine.solid] at e
  | .itm _, _, e, _ => by simp [Mine.solid] at e
theorem RpL.solid {X : Addr → Prop} {ms : Ms} {h : Heap} (hm : ∀ q ∈ ms, ∃ vs n, h.get? q.2.1 = some (lstO vs n)) : ∀ {l : List D} {vs : List Value}, solidL l = true → RpL X h l vs → RpL (Xm X ms) h l vs
  | [], _, _, x => x
  | d :: l, _, e, x => by
    simp only [RpL] at x ⊢
    simp only [solidL, Bool.and_eq_true] at e
    obtain ⟨v, r, e1, a, b⟩ := x
    exact ⟨v, r, e1, Rp.solid hm e.1 a, RpL.solid hm e.2 b⟩
end

structure MFr (C : Cfg) (X : Addr → Prop) (sc : Sc) (env : Env) (φ : Ph) (ms : Ms) (h : Heap) : Prop where
  fr : FrOk C (Xm X ms) sc env φ h
  tb : ∀ b, C.Tb b → X b
  xl : X env.locals
  xc : ∀ y c, env.cells.lookup y = some c → X c
  ls : ∀ q ∈ ms, HoldsL (Xm X ms) h q.2.1 q.2.2 ∧ C.B.get? q.2.1 = none ∧ ¬ X q.2.1 ∧ φ.lookup q.1 = some (.adr q.2.1)
  ap : (ms.map (·.2.1)).Nodup

theorem lookup_ms {x : Str} : ∀ {ms : Ms} {d : D}, (ms.map fun q => (q.1, D.lst q.2.2)).lookup x = some d → ∃ a l, (x, a, l) ∈ ms ∧ d = .lst l
  | [], d, e => by simp at e
  | (y, a, l) :: ms, d, e => by
    rw [List.map_cons, List.lookup_cons] at e
    by_cases q : x = y
    · subst q
      simp only [beq_self_eq_true, Option.some.injEq] at e
      exact ⟨a, l, List.mem_cons_self, e.symm⟩
    · rw [beq_eq_false_iff_ne.mpr q] at e
      obtain ⟨a', l', h1, h2⟩ := lookup_ms e
      exact ⟨a', l', List.mem_cons_of_mem _ h1, h2⟩

section
variable {C : Cfg} {k : Nat} {sc : Sc} {env : Env} {φ : Ph} {A : Around} {X : Addr → Prop} {E : Value → Shared → Prop} {s : Shared} {h h' : Heap} {ms : Ms}
theorem HoldsL.kp {Y : Addr → Prop} {a : Addr} {l : List D} (x : HoldsL X h a l) (k : Kp Y h h') (s : ∀ b, Y b → X b) (n : ¬ Y a) : HoldsL X h' a l := let ⟨vs, n', e, r⟩ := x; ⟨vs, n', k _ _ n e, r.kp k s⟩
theorem MFr.hm (F : MFr C X sc env φ ms h) : ∀ q ∈ ms, ∃ vs n, h.get? q.2.1 = some (lstO vs n) := fun q hq => let ⟨vs, n, e, _⟩ := (F.ls q hq).1; ⟨vs, n, e⟩

/-- the lists seen as data -/
theorem MFr.seen (F : MFr C X sc env φ ms h) : FrOk C X sc env (view ms φ) h := by
  have G : FrOk C X sc env φ h := F.fr.shr (fun b q => .inl q) F.tb F.xl F.xc
  have e := G.st.e
  refine ⟨⟨G.st.H, G.st.x, ⟨e.fn, e.gl, e.bl, e.nl, e.xl, e.nc, e.xc, e.kd, e.cl, fun y d ey => ?_⟩⟩, G.ns, G.lB, G.cx, G.ap⟩
  rw [view, lookup_app] at ey
  cases hq : (ms.map fun q => (q.1, D.lst q.2.2)).lookup y with
  | none => rw [hq] at ey; exact e.ld y d ey
  | some d' =>
    rw [hq] at ey; cases ey
    obtain ⟨a, l, hm, rfl⟩ := lookup_ms hq
    obtain ⟨⟨vs, n, e1, r⟩, _, nx, e2⟩ := F.ls _ hm
    obtain ⟨h1, h2, v, rv, z⟩ := e.ld y _ e2
    simp only [Rp] at rv
    subst rv
    refine ⟨h1, h2, _, ?_, z⟩
    simp only [Rp]
    exact ⟨a, vs, n, rfl, nx, e1, r.av fun b o _ q => .inl q⟩

theorem FrOk.chg {a : Addr} (F : FrOk C X sc env φ h) (H : HOk C h') (k : Kp (fun b => C.Tb b ∨ b = a) h h') (xa : X a) (ex : ∃ o, h'.get? a = some o) (nl : a ≠ env.locals) (nc : ∀ x c, env.cells.lookup x = some c → c ≠ a) : FrOk C X sc env φ h' := by
  have nl' : ¬ (C.Tb env.locals ∨ env.locals = a) := fun q => q.elim F.st.e.nl fun q => nl q.symm
  have nc' : ∀ x c, env.cells.lookup x = some c → ¬ (C.Tb c ∨ c = a) := fun x c e q => q.elim (F.st.e.nc x c e) (nc x c e)
  refine ⟨⟨H, F.st.x.via H k fun b q _ => (by rcases q with q | q; exact .inl q; exact .inr (q ▸ ex)), F.st.e.kpY k (fun b q => by rcases q with q | q; exact F.st.x.tb b q; rw [q]; exact xa) nl' nc'⟩, let ⟨m, n⟩ := F.ns; ⟨m, Ns_kp n k nl'⟩, F.lB, fun y hy => ?_, F.ap⟩
  obtain ⟨c, v, b1, ⟨o, ho, hd⟩, b2⟩ := F.cx y hy
  exact ⟨c, v, b1, ⟨o, k _ _ (nc' y c b1) ho, hd⟩, b2⟩

theorem MFr.nloc (F : MFr C X sc env φ ms h) {q : Str × Addr × List D} (hq : q ∈ ms) : q.2.1 ≠ env.locals := fun e => (F.ls q hq).2.2.1 (e ▸ F.xl)
theorem MFr.ncel (F : MFr C X sc env φ ms h) {q : Str × Addr × List D} (hq : q ∈ ms) : ∀ x c, env.cells.lookup x = some c → c ≠ q.2.1 := fun x c e w => (F.ls q hq).2.2.1 (w ▸ F.xc x c e)
theorem MFr.ntb (F : MFr C X sc env φ ms h) {q : Str × Addr × List D} (hq : q ∈ ms) : ¬ C.Tb q.2.1 := fun e => (F.ls q hq).2.2.1 (F.tb _ e)
theorem MFr.nyf (F : MFr C X sc env φ ms h) {q : Str × Addr × List D} (hq : q ∈ ms) : ¬ Yf C sc env q.2.1 := fun e => by
  rcases e with e | e | ⟨y, _, e⟩
  · exact F.ntb hq e
  · exact F.nloc hq e
  · exact F.ncel hq y _ e rfl

theorem MFr.kp (F : MFr C X sc env φ ms h) (H : HOk C h') (k : Kp C.Tb h h') : MFr C X sc env φ ms h' :=
  ⟨F.fr.kp H k, F.tb, F.xl, F.xc, fun q hq => let ⟨a, b⟩ := F.ls q hq; ⟨a.kp k (fun b q => .inl (F.tb b q)) (F.ntb hq), b⟩, F.ap⟩
/-- names change, the lists stay -/
theorem MFr.names {φ' : Ph} (F : MFr C X sc env φ ms h) (G : FrOk C (Xm X ms) sc env φ' h') (k : Kp (Yf C sc env) h h') (e : ∀ q ∈ ms, φ'.lookup q.1 = φ.lookup q.1) : MFr C X sc env φ' ms h' :=
  ⟨G, F.tb, F.xl, F.xc, fun q hq => let ⟨a, b, c, d⟩ := F.ls q hq; ⟨a.kp k (Yf_X F.fr) (F.nyf hq), b, c, (e q hq).trans d⟩, F.ap⟩

def setM (a : Addr) (l : List D) (ms : Ms) : Ms := ms.map fun q => if q.2.1 = a then (q.1, a, l) else q
theorem Md_setM {a b : Addr} {l : List D} : Md (setM a l ms) b ↔ Md ms b := by
  unfold Md setM
  constructor
  · rintro ⟨q, hq, e⟩
    obtain ⟨p, hp, rfl⟩ := List.mem_map.mp hq
    refine ⟨p, hp, ?_⟩
    split at e
    · rename_i w; rw [w]; exact e
    · exact e
  · rintro ⟨p, hp, e⟩
    refine ⟨_, List.mem_map.mpr ⟨p, hp, rfl⟩, ?_⟩
    split
    · rename_i w; rw [← e, w]
    · exact e
theorem Xm_setM {a : Addr} {l : List D} : Xm X (setM a l ms) = Xm X ms := funext fun b => propext (or_congr Iff.rfl Md_setM)
/-- one list changes -/
theorem MFr.change {a : Addr} {l : List D} (F : MFr C X sc env φ ms h) (hq : Md ms a) (H : HOk C h') (k : Kp (fun b => C.Tb b ∨ b = a) h h') (hl : HoldsL (Xm X ms) h' a l) : MFr C X sc env φ (setM a l ms) h' := by
  obtain ⟨q, hq, rfl⟩ := hq
  have ex : ∃ o, h'.get? q.2.1 = some o := let ⟨vs, n, e, _⟩ := hl; ⟨_, e⟩
  have xa : Xm X ms q.2.1 := .inr ⟨q, hq, rfl⟩
  refine ⟨by rw [Xm_setM]; exact F.fr.chg H k xa ex (F.nloc hq) (F.ncel hq), F.tb, F.xl, F.xc, fun p hp => ?_, ?_⟩
  · obtain ⟨p, hp0, rfl⟩ := List.mem_map.mp hp
    rw [Xm_setM]
    split
    · rename_i w
      obtain ⟨a1, a2, a3, a4⟩ := F.ls p hp0
      rw [w] at a2 a3 a4
      exact ⟨hl, a2, a3, a4⟩
    · rename_i w
      obtain ⟨a1, a2⟩ := F.ls p hp0
      refine ⟨a1.kp k (fun b z => z.elim (fun z => .inl (F.tb b z)) fun z => z ▸ xa) fun z => z.elim (F.ntb hp0) w, a2⟩
  · have : (setM q.2.1 l ms).map (·.2.1) = ms.map (·.2.1) := by
      unfold setM
      rw [List.map_map]
      refine List.map_congr_left fun p _ => ?_
      simp only [Function.comp]
      split
      · rename_i w; exact w.symm
      · rfl
    rw [this]; exact F.ap
end
end Mine
namespace Mine
open PySem PySem.Spec PySem.Calls PyProof.Rows PySem.W
set_option linter.unusedVariables false
set_option maxRecDepth 100000

section
variable {C : Cfg} {k : Nat} {sc : Sc} {env : Env} {φ : Ph} {A : Around} {X : Addr → Prop} {E : Value → Shared → Prop} {s : Shared} {h h' : Heap} {ms : Ms} {I : Addr}
theorem Xm_or : Xm (fun b => X b ∨ b = I) ms = fun b => Xm X ms b ∨ b = I := funext fun b => propext ⟨fun q => by
  rcases q with (q | q) | q
  · exact .inl (.inl q)
  · exact .inr q
  · exact .inl (.inr q), fun q => by
  rcases q with (q | q) | q
  · exact .inl (.inl q)
  · exact .inr q
  · exact .inl (.inr q)⟩
theorem MFr.grow (F : MFr C X sc env φ ms h) (fr : h.get? I = none) (k : ∀ b o, h.get? b = some o → h'.get? b = some o) (H : HOk C h') (ex : ∃ o, h'.get? I = some o) : MFr C (fun b => X b ∨ b = I) sc env φ ms h' := by
  refine ⟨by rw [Xm_or]; exact F.fr.grow fr k H ex, fun b q => .inl (F.tb b q), .inl F.xl, fun y c e => .inl (F.xc y c e), fun q hq => ?_, F.ap⟩
  obtain ⟨⟨vs, n, e, r⟩, b, c, d⟩ := F.ls q hq
  refine ⟨⟨vs, n, k _ _ e, ?_⟩, b, fun z => z.elim c fun z => ?_, d⟩
  · rw [Xm_or]
    exact (r.av (X' := fun b => Xm X ms b ∨ b = I) fun b o e q => q.elim id fun q => by subst q; rw [fr] at e; cases e).kp (Y := fun _ => False) (fun b o _ e => k b o e) fun _ q => q.elim
  · rw [z, fr] at e; cases e
theorem MFr.letGo (F : MFr C (fun b => X b ∨ b = I) sc env φ ms h) (k : Kp (fun b => b = I) h h') (na : ∀ b, X b → b ≠ I) (tb : ∀ b, C.Tb b → X b) (xl : X env.locals) (xc : ∀ y c, env.cells.lookup y = some c → X c)
    (hb : C.B.get? I = none) (hj : ¬ JA h I) : MFr C X sc env φ ms h' := by
  have na' : ∀ b, Xm X ms b → b ≠ I := fun b q => q.elim (na b) fun ⟨p, hp, e⟩ w => (F.ls p hp).2.2.1 (.inr (e.trans w))
  have f := F.fr
  rw [Xm_or] at f
  refine ⟨f.letGo k na' (fun b q => .inl (tb b q)) (.inl xl) (fun y c e => .inl (xc y c e)) hb hj, tb, xl, xc, fun q hq => ?_, F.ap⟩
  obtain ⟨⟨vs, n, e, r⟩, b, c, d⟩ := F.ls q hq
  rw [Xm_or] at r
  exact ⟨⟨vs, n, k _ _ (na' _ (.inr ⟨q, hq, rfl⟩)) e, (r.kp k fun b q => .inr q).av fun b o _ q => .inl q⟩, b, fun z => c (.inl z), d⟩
theorem MFr.other (F : MFr C X sc env φ ms h) (k : Kp (fun b => b = I) h h') (xa : X I) (hb : C.B.get? I = none) (hj : ¬ JA h I) (ex : ∃ o, h'.get? I = some o) (nl : I ≠ env.locals) (nc : ∀ x c, env.cells.lookup x = some c → c ≠ I) : MFr C X sc env φ ms h' :=
  ⟨F.fr.other k (.inl xa) hb hj ex nl nc, F.tb, F.xl, F.xc, fun q hq => let ⟨a, b, c, d⟩ := F.ls q hq; ⟨a.kp k (fun b z => .inl (z ▸ xa)) fun z => c (z ▸ xa), b, c, d⟩, F.ap⟩

def Ym (C : Cfg) (sc : Sc) (env : Env) (ms : Ms) (b : Addr) : Prop := Yf C sc env b ∨ Md ms b

theorem lookup_setA_ne {x y : Str} {d : D} (n : y ≠ x) : (setA x d φ).lookup y = φ.lookup y := by rw [lookup_setA, if_neg n]

/-- a name is bound, the lists stay -/
theorem MFr.bind {x : Str} {p : Pos} {d : D} {v : Value} {Q : Unit → Shared → Prop} (F : MFr C X sc env φ ms s.heap) (hx : kindSt sc x = true) (hn : ∀ q ∈ ms, q.1 ≠ x) (r : Rp (Xm X ms) s.heap d v)
    (h : ∀ h' tk, MFr C X sc env (setA x d φ) ms h' → Kp (Ym C sc env ms) s.heap h' → Q () { s with heap := h', toks := tk }) : wpAny (model C.prog C.w) A (assign (.Name x p) env v) Q E s :=
  assign_ok F.fr hx r fun h' tk F' k' => h h' tk (F.names F' k' fun q hq => lookup_setA_ne (hn q hq)) (k'.mono fun b q => .inl q)

theorem MFr.stor {x : Str} {d : D} {v : Value} {Q : Unit → Shared → Prop} (F : MFr C X sc env φ ms s.heap) (hx : kindSt sc x = true) (hn : ∀ q ∈ ms, q.1 ≠ x) (r : Rp (Xm X ms) s.heap d v)
    (h : ∀ h' tk, MFr C X sc env (setA x d φ) ms h' → Kp (Yf C sc env) s.heap h' → Q () { s with heap := h', toks := tk }) : wpAny (model C.prog C.w) A (storeName env x v) Q E s :=
  store_ok F.fr hx r fun h' tk F' k' => h h' tk (F.names F' (k'.mono fun b q => .inr q) fun q hq => lookup_setA_ne (hn q hq)) (k'.mono fun b q => .inr q)

/-- a for loop whose turns may change the lists -/
theorem forM_ok {G : Fn} {N : Nat} {x : Str} {p pos : Pos} {it : Expr} {b : List Stmt} {d : D} {its : List D} {Q : Flow → Shared → Prop} (CO : CfgOk C) (GO : GOk C k G) (K : Aok k A) (F : MFr C X sc env φ ms s.heap) (hx : kindLo sc x = true)
    (P : List D → Ph → Ms → Prop) (h1 : ev G N sc φ it = some d) (h2 : itemsD d = some its) (h3 : P its φ ms) (hmd : ∀ l φ' ms', P l φ' ms' → (∀ q ∈ ms', q.1 ≠ x) ∧ ∀ b, Md ms' b ↔ Md ms b)
    (turn : ∀ d rest φ' ms', P (d :: rest) φ' ms' → ∀ (X' : Addr → Prop) (s' : Shared), MFr C X' sc env (setA x d φ') ms' s'.heap → (∀ b, X b → X' b) → (∃ h' tk, s' = { s with heap := h', toks := tk }) →
      ∀ (Q' : Flow → Shared → Prop) (E' : Value → Shared → Prop), (∀ φ'' ms'' h'' tk'', P rest φ'' ms'' → MFr C X' sc env φ'' ms'' h'' → Kp (Ym C sc env ms) s'.heap h'' → Q' .next { s with heap := h'', toks := tk'' }) → wpAny (model C.prog C.w) A (execs b env) Q' E' s')
    (fin : ∀ φ' ms' h' tk, P [] φ' ms' → MFr C X sc env φ' ms' h' → Kp (Ym C sc env ms) s.heap h' → Q .next { s with heap := h', toks := tk }) :
    wpAny (model C.prog C.w) A (exec (.For (.Name x p) it b [] pos) env) Q E s := by
  have EV := ev_ok CO GO N
  have hx' : kindSt sc x = true := by
    simp only [kindLo, Bool.and_eq_true] at hx
    simp only [kindSt, Bool.and_eq_true, Bool.or_eq_true]; exact ⟨hx.1, .inl hx.2⟩
  refine wpAny_For (EV.1 _ sc env φ it d h1 A s _ E K F.fr.st fun v h1 tk1 H1 k1 r1 => ?_) (fun x => ev_set h1 env x)
  have Z1 := F.kp H1 k1
  refine iter_ok (C := C) Z1.fr.st.x r1 h2 fun ob _ hit => ?_
  have fr := get_size h1
  dsimp only at hit ⊢
  generalize hN : h1.objs.size = I at *
  have neX : ∀ b, Xm X ms b → b ≠ I := fun b hb q => by obtain ⟨o, e⟩ := Z1.fr.st.x.ex b hb; rw [q, fr] at e; cases e
  have itEx : ∀ {X' h i}, ItAt X' h I its i → ∃ o, h.get? I = some o := fun q => by
    rcases q with ⟨_, _, _, ⟨o', e', _⟩, _⟩ | ⟨_, _, _, e'⟩
    · exact ⟨o', e'⟩
    · exact ⟨_, e'⟩
  have Z2 : MFr C (fun b => X b ∨ b = I) sc env φ ms (h1.push ob) := Z1.grow fr (fun b o e => Heap.get?_push_of_some _ e) (H1.push ob) (itEx hit)
  have nYI : ¬ Ym C sc env ms I := by
    rintro ((q | q | ⟨y, _, q⟩) | q)
    · exact neX _ (.inl (F.tb _ q)) rfl
    · exact neX _ (.inl F.xl) q.symm
    · exact neX _ (.inl (F.xc _ _ q)) rfl
    · exact neX _ (.inr q) rfl
  have IB := H1.baseNone fr
  have hit' : ItAt (fun b => Xm X ms b ∨ b = I) (h1.push ob) I its 0 := hit
  have sub : ∀ b, Ym C sc env ms b → Xm X ms b := fun b q => q.elim (fun q => Yf_X F.fr b q) .inr
  have iL : I ≠ env.locals := Ne.symm (neX _ (.inl F.xl))
  have iC : ∀ y c, env.cells.lookup y = some c → c ≠ I := fun y c hc => neX _ (.inl (F.xc y c hc))
  refine codeAny_forLoop (fun m s' => ∃ i rest φ' ms' h' tk, s' = { s with heap := h', toks := tk } ∧ MFr C (fun b => X b ∨ b = I) sc env φ' ms' h' ∧ ItAt (fun b => Xm X ms b ∨ b = I) h' I its i ∧ (∀ j, its[i + j]? = rest[j]?) ∧ i + rest.length = its.length ∧
    Kp (fun b => Ym C sc env ms b ∨ b = I) s.heap h' ∧ P rest φ' ms' ∧ m = rest.length) ?_ its.length
    ⟨0, its, φ, ms, h1.push ob, tk1, rfl, Z2, hit', fun j => by rw [Nat.zero_add], Nat.zero_add _, (k1.mono fun b q => .inl (.inl (.inl q))).trans (.push _), h3, rfl⟩
  rintro m s' ⟨i, rest, φ', ms', h', tk, rfl, Z', it', hits, hlen, k', ef, rfl⟩
  have IB' := IB
  cases rest with
  | nil =>
    refine it'.done (C := C) K.handled (by simpa using hlen) fun h'' kk => wpAny_execs_nil ?_
    refine fin φ' ms' h'' tk ef (Z'.letGo kk (fun b q => neX b (.inl q)) F.tb F.xl F.xc IB it'.nja) fun b o nb eb => ?_
    have bI : b ≠ I := by rintro rfl; have := k1 _ _ (fun q => nYI (.inl (.inl q))) eb; rw [fr] at this; cases this
    exact kk b o bI (k' b o (fun q => q.elim nb bI) eb)
  | cons d' rest =>
    have eX : Xm (fun b => X b ∨ b = I) ms' = fun b => Xm X ms b ∨ b = I := by
      rw [Xm_or]
      funext b
      refine propext (or_congr_left (or_congr_right ((hmd _ _ _ ef).2 b)))
    refine it'.item (C := C) (.inr rfl) (by have := hits 0; simpa using this) fun v h2 tk2 r2 it2 k2 => ?_
    have Z3 : MFr C (fun b => X b ∨ b = I) sc env φ' ms' h2 := Z'.other k2 (.inr rfl) IB it'.nja (itEx it2) iL iC
    refine MFr.bind (s := { s with heap := h2, toks := tk2 }) Z3 hx' (hmd _ _ _ ef).1 (by rw [eX]; exact r2) fun h3 tk3 Z4 k3 => ?_
    have sub' : ∀ b, Ym C sc env ms' b → Ym C sc env ms b := fun b q => q.imp id ((hmd _ _ _ ef).2 b).mp
    have it3 := it2.kp (k3.mono sub') (fun b q => .inl (sub b q)) nYI
    have k03 : Kp (fun b => Ym C sc env ms b ∨ b = I) s.heap h3 := (k'.trans (k2.mono fun b q => .inr q)).trans (k3.mono fun b q => .inl (sub' b q))
    refine turn d' rest φ' ms' ef _ _ Z4 (fun b q => .inl q) ⟨h3, tk3, rfl⟩ _ _ fun φ5 ms5 h5 tk5 P5 Z5 k5 => ?_
    refine ⟨rest.length, Nat.lt_succ_self _, i + 1, rest, φ5, ms5, h5, tk5, rfl, Z5, it3.kp k5 (fun b q => .inl (sub b q)) nYI, fun j => ?_, by simp only [List.length_cons] at hlen; omega, k03.trans (k5.mono fun b q => .inl q), P5, rfl⟩
    have := hits (j + 1)
    rw [List.getElem?_cons_succ] at this
    rw [← this]; congr 1; omega
end
end Mine
namespace Mine
open PySem PySem.Spec PySem.Calls PyProof.Rows PySem.W
set_option linter.unusedVariables false
set_option maxRecDepth 100000

/-- functions, cells, code records -/
def Fxo (o : Obj) : Prop := (∃ fd, o.data = .func fd) ∨ (∃ v, o.data = .cell v) ∨ ∃ vs s t, o.data = .fields vs ∧ vs[1]? = some (.str s t)

section
variable {C : Cfg} {k : Nat} {sc : Sc} {env : Env} {φ : Ph} {A : Around} {X : Addr → Prop} {E : Value → Shared → Prop} {s : Shared} {h h' : Heap} {ms : Ms}
theorem fx_tb (H : HOk C h) {b : Addr} {o : Obj} (t : C.Tb b) (e : h.get? b = some o) : ¬ Fxo o := by
  obtain ⟨q, hq, rfl⟩ := t
  obtain ⟨ps, e2, tr, _⟩ := H.tabs q hq
  rw [e] at e2; cases e2
  rintro (⟨fd, x⟩ | ⟨v, x⟩ | ⟨vs, s, t, x, y⟩)
  · cases x
  · cases x
  · cases x
    rw [← Array.getElem?_toList] at y
    revert y
    generalize ps.toList = l at tr
    cases l with
    | nil => intro y; simp at y
    | cons a l =>
      cases l with
      | nil => intro y; simp at y
      | cons b l =>
        intro y
        simp only [List.getElem?_cons_succ, List.getElem?_cons_zero, Option.some.injEq] at y
        subst y
        cases l <;> cases a <;> simp [TriplesOk] at tr
theorem fx_list {vs : Array Value} {n : Nat} : ¬ Fxo (lstO vs n) := by
  rintro (⟨fd, x⟩ | ⟨v, x⟩ | ⟨vs, s, t, x, y⟩) <;> cases x

structure Clo (C : Cfg) (X : Addr → Prop) (h : Heap) (f : Addr) (fd : FuncData) (body : List Stmt) (φc : Ph) (vc : List (Str × Value)) : Prop where
  na : NestAt h f fd body
  hcx : ∀ y c, fd.closure.lookup y = some c → X c ∧ ¬ C.Tb c
  hcc : ∀ y c, fd.closure.lookup y = some c → ∃ v, h.IsCell c v
  hcl : ∀ y, fd.scope.names.lookup y = some .free → ∃ c, fd.closure.lookup y = some c
  hap : ∀ x y c, fd.closure.lookup x = some c → fd.closure.lookup y = some c → x = y
  hφ : ∀ y d, φc.lookup y = some d → okName y = true ∧ fd.scope.names.lookup y = some .free ∧ ∃ c v, fd.closure.lookup y = some c ∧ h.IsCell c (some v) ∧ Rp X h d v
  hv : ∀ y v, vc.lookup y = some v → okName y = true ∧ fd.scope.names.lookup y = some .free ∧ ∃ c, fd.closure.lookup y = some c ∧ h.IsCell c (some v)

theorem Clo.kp {Y : Addr → Prop} {f : Addr} {fd : FuncData} {body : List Stmt} {φc : Ph} {vc : List (Str × Value)} (x : Clo C X h f fd body φc vc) (k : Kp Y h h') (hY : ∀ b, Y b → X b) (n : ∀ b o, Y b → h.get? b = some o → ¬ Fxo o) : Clo C X h' f fd body φc vc := by
  have kf : ∀ b o, h.get? b = some o → Fxo o → h'.get? b = some o := fun b o e fx => k b o (fun q => n b o q e fx) e
  have kc : ∀ c v, h.IsCell c v → h'.IsCell c v := fun c v ⟨o, e, d⟩ => ⟨o, kf _ _ e (.inr (.inl ⟨_, d⟩)), d⟩
  refine ⟨⟨?_, x.na.co, x.na.gen, x.na.kind, x.na.body, x.na.gl, x.na.bl, ?_, x.na.nc⟩, x.hcx, fun y c e => let ⟨v, q⟩ := x.hcc y c e; ⟨v, kc _ _ q⟩, x.hcl, x.hap, fun y d e => ?_, fun y v e => ?_⟩
  · obtain ⟨o, e, d⟩ := x.na.ob; exact ⟨o, kf _ _ e (.inl ⟨_, d⟩), d⟩
  · obtain ⟨c, o, vs, t, e1, e2, e3, e4⟩ := x.na.cd
    exact ⟨c, o, vs, t, e1, kf _ _ e2 (.inr (.inr ⟨_, _, _, e3, e4⟩)), e3, e4⟩
  · obtain ⟨a, b, c, v, e1, e2, e3⟩ := x.hφ y d e
    exact ⟨a, b, c, v, e1, kc _ _ e2, e3.kp k hY⟩
  · obtain ⟨a, b, c, e1, e2⟩ := x.hv y v e
    exact ⟨a, b, c, e1, kc _ _ e2⟩
theorem Clo.grow {X' : Addr → Prop} {f : Addr} {fd : FuncData} {body : List Stmt} {φc : Ph} {vc : List (Str × Value)} (x : Clo C X h f fd body φc vc) (s : ∀ b o, h.get? b = some o → X' b → X b) (g : ∀ b, X b → X' b) : Clo C X' h f fd body φc vc :=
  ⟨x.na, fun y c e => ⟨g _ (x.hcx y c e).1, (x.hcx y c e).2⟩, x.hcc, x.hcl, x.hap, fun y d e => let ⟨a, b, c, v, e1, e2, e3⟩ := x.hφ y d e; ⟨a, b, c, v, e1, e2, e3.av s⟩, x.hv⟩

theorem freeName_ok {x : Str} {pos : Pos} {c : Addr} {v : Value} {Q : Value → Shared → Prop} (S : St C X sc env φ s.heap) (hx : sc.lookup x = some .free) (ok : okName x = true) (hc : env.cells.lookup x = some c) (hi : s.heap.IsCell c (some v)) (h : Q v s) :
    wpAny (model C.prog C.w) A (eval (.Name x pos) env) Q E s := by
  simp only [okName, Bool.and_eq_true, Bool.not_eq_true'] at ok
  refine wpAny_Name ?_ ok.1
  rcases S.e.kd x with hk | ⟨_, hk⟩
  · rw [hx] at hk; exact wpAny_loadName_free S.e.fn hk hc hi h ok.2
  · exact wpAny_loadName_cell S.e.fn hk hc hi h
theorem cellName_ok {x : Str} {pos : Pos} {c : Addr} {v : Value} {Q : Value → Shared → Prop} (S : St C X sc env φ s.heap) (hx : sc.lookup x = some .cell) (ok : okName x = true) (hc : env.cells.lookup x = some c) (hi : s.heap.IsCell c (some v)) (h : Q v s) :
    wpAny (model C.prog C.w) A (eval (.Name x pos) env) Q E s := by
  simp only [okName, Bool.and_eq_true, Bool.not_eq_true'] at ok
  refine wpAny_Name ?_ ok.1
  rcases S.e.kd x with hk | ⟨hk, _⟩
  · rw [hx] at hk; exact wpAny_loadName_cell S.e.fn hk hc hi h
  · rw [hx] at hk; cases hk

/-- a call whose callee is a function's object -/
theorem callF_ok {fe : Expr} {args : List Expr} {pos : Pos} {l : List D} {fa : Addr} {o : Obj} {fd : FuncData} {ff : Expr → Option D} {Q : Value → Shared → Prop} (K : Aok k A) (F : FOk C k X sc env φ ff) (S : St C X sc env φ s.heap)
    (hat : ∀ f p, fe = .Name f p → True) (hc : eval (.Call fe args [] pos) env = (do callWith pos (← eval fe env) [] (backTo pos (starEach args env)) [])) (ea : evs ff args = some l)
    (hf : ∀ Q : Value → Shared → Prop, Q (.ref fa) s → wpAny (model C.prog C.w) A (eval fe env) Q E s) (ho : s.heap.get? fa = some o) (hd : o.data = .func fd)
    (h : ∀ vs h' tk, HOk C h' → Kp C.Tb s.heap h' → RpL X h' l vs → wpAny (model C.prog C.w) A (call (.ref fa) vs) Q E { s with heap := h', toks := tk }) : wpAny (model C.prog C.w) A (eval (.Call fe args [] pos) env) Q E s := by
  rw [hc]
  refine wpAny_bind (hf _ ?_)
  refine callWith_of (P := fun h => ∃ o fd, h.get? fa = some o ∧ o.data = .func fd) (by rw [starred_none ea]; rfl) (fun h ⟨o, fd, e, d⟩ => ⟨.frame, .inl rfl, (Looks.ld (part := none) e).andThen (by rw [d]; exact .now)⟩) ?_
  have keep : ∀ h', Kp C.Tb s.heap h' → ∃ o fd, h'.get? fa = some o ∧ o.data = .func fd := fun h' k => ⟨o, fd, k _ _ (fun t => fx_tb S.H t ho (.inl ⟨_, hd⟩)) ho, hd⟩
  have body : wpAny (model C.prog C.w) A (spliced (backTo pos (starEach args env))) (fun vs s₁ => (∃ o fd, s₁.heap.get? fa = some o ∧ o.data = .func fd) ∧ wpAny (model C.prog C.w) A (call (.ref fa) ([] ++ vs) []) Q E s₁) E s := by
    refine evs_ok F K args l ea s _ E S fun vs h' tk H k1 r => ⟨keep h' k1, h vs h' tk H k1 r⟩
  cases args with
  | nil =>
    simp only [evs, Option.some.injEq] at ea; subst ea
    simp only [starEach, backTo, List.map_nil]
    exact evalArgs_nil3 ⟨⟨o, fd, ho, hd⟩, h [] s.heap s.toks S.H .refl (by simp only [RpL])⟩
  | cons e es =>
    have hs : starEach (e :: es) env = (false, eval e env) :: starEach es env := by
      cases e <;> first
        | (simp only [evs] at ea; cases ea; done)
        | rfl
    rw [hs] at body ⊢
    exact evalArgs_plain body

theorem exB_app {f : Ph → Stmt → Option Out} (F : SOk C k sc f) {b : List Stmt} {E : Value → Shared → Prop} {Q : Flow → Shared → Prop} {A : Around} {X : Addr → Prop} {env : Env} (K : Aok k A) : ∀ (a : List Stmt) (φ φ' : Ph) (s : Shared), exB f a φ = some (φ', none) → FrOk C X sc env φ s.heap →
    (∀ h' tk, FrOk C X sc env φ' h' → Kp (Yf C sc env) s.heap h' → wpAny (model C.prog C.w) A (execs b env) Q E { s with heap := h', toks := tk }) → wpAny (model C.prog C.w) A (execs (a ++ b) env) Q E s
  | [], φ, φ', s, e, Z, h => by
    simp only [exB, Option.some.injEq, Prod.mk.injEq, and_true] at e; subst e
    exact h s.heap s.toks Z .refl
  | st :: r, φ, φ', s, e, Z, h => by
    simp only [exB, Option.bind_eq_some_iff] at e
    obtain ⟨⟨φ1, r1⟩, h1, h2⟩ := e
    cases r1 with
    | some d => simp at h2
    | none =>
      rw [List.cons_append]
      exact wpAny_execs_cons (F φ st _ h1 A X env s _ E K Z fun h' tk Z' k' => exB_app F K r φ1 φ' _ h2 Z' fun h'' tk' Z'' k'' => h h'' tk' Z'' (k'.trans k''))

theorem RpL.set : ∀ {l : List D} {vs : List Value} {d : D} {v : Value} {j : Nat}, RpL X h l vs → Rp X h d v → RpL X h (l.set j d) (vs.set j v)
  | [], _, d, v, j, x, y => by simp only [RpL] at x; subst x; simp [RpL]
  | c :: l, _, d, v, 0, x, y => by
    simp only [RpL] at x
    obtain ⟨u, r, rfl, a, b⟩ := x
    simp only [List.set_cons_zero, RpL]
    exact ⟨v, r, rfl, y, b⟩
  | c :: l, _, d, v, j + 1, x, y => by
    simp only [RpL] at x
    obtain ⟨u, r, rfl, a, b⟩ := x
    simp only [List.set_cons_succ, RpL]
    exact ⟨u, _, rfl, a, RpL.set b y⟩

theorem nja_list {vs : Array Value} {n : Nat} {a : Addr} (e : h.get? a = some (lstO vs n)) : ¬ JA h a := nja_data e fun vs q => by cases q

/-- a list's item is set -/
theorem setList_ok {a : Addr} {l : List D} {j : Int} {t : Tok} {d : D} {v : Value} {Q : Unit → Shared → Prop} (H : HOk C s.heap) (hb : C.B.get? a = none) (xa : X a) (hl : HoldsL X s.heap a l) (r : Rp X s.heap d v) (h0 : 0 ≤ j) (h1 : j < l.length) (h2 : j < 1000000)
    (h : ∀ h', HOk C h' → Kp (fun b => b = a) s.heap h' → HoldsL X h' a (l.set j.toNat d) → Q () { s with heap := h' }) : wpAny (model C.prog C.w) A (setItem (.ref a) (.int j t) v) Q E s := by
  obtain ⟨vs, n, g, rl⟩ := hl
  have hs := rl.length
  simp only [Array.length_toList] at hs
  refine ki_setAt (n := n) g h0 (by omega) (by omega) ?_
  have sb := Heap.SameBut.update s.heap a (Obj.mapSeq (·.setIfInBounds j.toNat v))
  have g' := Heap.get?_update_self (Obj.mapSeq (·.setIfInBounds j.toNat v)) g (by rfl)
  have kk : Kp (fun b => b = a) s.heap (s.heap.update a (Obj.mapSeq (·.setIfInBounds j.toNat v))) := .same sb rfl
  refine h _ (H.same sb hb (nja_list g)) kk ⟨_, _, g', ?_⟩
  have := (rl.set (j := j.toNat) r).kp kk (fun b q => q ▸ xa)
  simpa using this
end
end Mine
namespace Mine
open PySem PySem.Spec PySem.Calls PyProof.Rows PySem.W
set_option linter.unusedVariables false
set_option maxRecDepth 100000

/-- the shape of the nested def that lays the figures -/
structure In1 where
  t : Expr
  ip : Pos
  lx : Str
  lxp : Pos
  li : Expr
  sp : Pos
  xx : Str
  xp : Pos
  ap : Pos
  rp : Pos
  pre : List Stmt
  fx : Str
  f1p : Pos
  a1 : List Expr
  c1p : Pos
  e1p : Pos
  f2p : Pos
  a2 : List Expr
  c2p : Pos
  e2p : Pos
def In1.body (I : In1) : List Stmt :=
  .If I.t [.Assign [.Subscript (.Name I.lx I.lxp) I.li I.sp] (.Name I.xx I.xp) I.ap, .Return none I.rp] [] I.ip ::
    (I.pre ++ [.Expr (.Call (.Name I.fx I.f1p) I.a1 [] I.c1p) I.e1p, .Expr (.Call (.Name I.fx I.f2p) I.a2 [] I.c2p) I.e2p])

def dig (G : Fn) (N : Nat) (sc : Sc) (ps : List Str) (φc : Ph) (I : In1) : Nat → List D → List D → Option (List D)
  | 0, _, _ => none
  | m + 1, ds, l =>
    (ev G N sc (ps.zip ds ++ φc) I.t).bind fun c => (truthD c).bind fun b => if b then
       (ev G N sc (ps.zip ds ++ φc) (.Name I.xx I.xp)).bind fun dx => (ev G N sc (ps.zip ds ++ φc) I.li).bind fun i => match i with
         | .int j => if decide (0 ≤ j) && decide (j < l.length) && decide (j < 1000000) then some (l.set j.toNat dx) else none
         | _ => none
     else (exB (exS G N N sc) I.pre (ps.zip ds ++ φc)).bind fun o => match o.2 with
       | some _ => none
       | none => (evs (ev G N sc o.1) I.a1).bind fun d1 => (evs (ev G N sc o.1) I.a2).bind fun d2 => (dig G N sc ps φc I m d1 l).bind (dig G N sc ps φc I m d2)

section
variable {C : Cfg} {k : Nat} {G : Fn} {N : Nat} {sc : Sc} {ps : List Str} {φc : Ph} {I : In1}

theorem inner1_ok (CO : CfgOk C) (GO : GOk C k G) (hnd : ps.Nodup) (hps : ∀ p ∈ ps, okName p = true ∧ sc.lookup p = some .local) {f L : Addr} {fd : FuncData} {vc : List (Str × Value)} (hsc : fd.scope.names = sc)
    (hfx : vc.lookup I.fx = some (.ref f)) (hlx : vc.lookup I.lx = some (.ref L)) (hb : ∀ vs : List Value, vs.length = ps.length → bindArgs fd ⟨vs, []⟩ = pure (ps.zip vs)) (hbL : C.B.get? L = none) :
    ∀ m ds l l', dig G N sc ps φc I m ds l = some l' → ds.length = ps.length → ∀ (A : Around) (X : Addr → Prop) (s : Shared) (Q E : Value → Shared → Prop) (vs : List Value), Aok (k + m) A → HOk C s.heap → XOk C X s.heap → X L → HoldsL X s.heap L l →
    Clo C X s.heap f fd I.body φc vc → RpL X s.heap ds vs → (I.a1.length = ps.length ∧ I.a2.length = ps.length) →
    (∀ h' tk, HOk C h' → Kp (fun b => C.Tb b ∨ b = L) s.heap h' → HoldsL X h' L l' → Q .none { s with heap := h', toks := tk }) → wpAny (model C.prog C.w) A (call (.ref f) vs) Q E s := by
  intro m
  induction m with
  | zero => intro ds l l' e; simp [dig] at e
  | succ m ih =>
    intro ds l l' e hds A X s Q E vs K H x xL hl CL r hal h
    have EV := ev_ok CO GO N
    refine enterN_ok (k := k + m) CO CL.na hnd (hsc ▸ hps) K H x r (hb vs (by rw [r.length, hds])) CL.hcx CL.hcl CL.hap CL.hφ fun env s' hs kp fr F hcells => ?_
    rw [hsc] at F
    obtain ⟨h0, tk0, rfl⟩ := hs
    dsimp only at kp
    have Km : Aok (k + m) (A.deeper env) := K.deeper
    have Kk : Aok k (A.deeper env) := Km.mono (by omega)
    obtain ⟨vsL, nL, gL, rL⟩ := hl
    have neL : L ≠ env.locals := fun q => by rw [q, fr] at gL; cases gL
    have av : ∀ b o, s.heap.get? b = some o → (X b ∨ b = env.locals) → X b := fun b o e q => q.elim id fun q => by subst q; rw [fr] at e; cases e
    -- what lies in the heap before a change of the list
    have CL0 : Clo C (fun b => X b ∨ b = env.locals) h0 f fd I.body φc vc := (CL.grow (X' := fun b => X b ∨ b = env.locals) av fun b q => .inl q).kp (Y := fun _ => False) (fun b o _ e => kp b o e) (fun _ q => q.elim) fun _ _ q => q.elim
    have HL0 : HoldsL (fun b => X b ∨ b = env.locals) h0 L l := ⟨vsL, nL, kp _ _ gL, (rL.av (X' := fun b => X b ∨ b = env.locals) av).kp (Y := fun _ => False) (fun b o _ e => kp b o e) fun _ q => q.elim⟩
    have nYL : ¬ Yf C sc env L := by
      rintro (q | q | ⟨y, q, _⟩)
      · obtain ⟨q0, hq0, rfl⟩ := q
        obtain ⟨ps', e2, _⟩ := H.tabs q0 hq0
        rw [gL] at e2; cases e2
      · exact neL q
      · rw [← hsc] at q; exact absurd rfl (CL.na.nc _ (mem_lookup q))
    have yfx : ∀ {h' φ'}, FrOk C (fun b => X b ∨ b = env.locals) sc env φ' h' → ∀ b o, Yf C sc env b → h'.get? b = some o → ¬ Fxo o := fun {h' φ'} F' b o q e => by
      rcases q with q | q | ⟨y, q, _⟩
      · exact fx_tb F'.st.H q e
      · obtain ⟨mm, o', es, ep, e2, d2, _⟩ := F'.ns
        rw [q, e2] at e; cases e
        rintro (⟨fd, x⟩ | ⟨v, x⟩ | ⟨vs, s, t, x, y⟩) <;> rw [d2] at x <;> cases x
      · rw [← hsc] at q; exact absurd rfl (CL.na.nc _ (mem_lookup q))
    -- how a turn ends
    have back : ∀ h' tk, HOk C h' → Kp (fun b => Yf C sc env b ∨ b = L) h0 h' → HoldsL (fun b => X b ∨ b = env.locals) h' L l' → Q .none { s with heap := h', toks := tk } := fun h' tk H' k' hl' => by
      refine h h' tk H' (fun b o nb eb => k' b o ?_ (kp b o eb)) ?_
      · rintro ((q | q | ⟨y, q, _⟩) | q)
        · exact nb (.inl q)
        · rw [q, fr] at eb; cases eb
        · rw [← hsc] at q; exact absurd rfl (CL.na.nc _ (mem_lookup q))
        · exact nb (.inr q)
      · obtain ⟨ws, n, g, r⟩ := hl'
        exact ⟨ws, n, g, r.av fun b o _ q => .inl q⟩
    simp only [dig, Option.bind_eq_some_iff] at e
    obtain ⟨c, h1, b, h2, e⟩ := e
    show wpAny _ _ (execs (_ :: _) env) _ _ _
    refine wpAny_execs_cons (wpAny_If (EV.2 _ sc env _ I.t c b h1 h2 _ _ _ _ Kk F.st fun h1 tk1 H1 k1 => ?_))
    have F1 := F.kp H1 k1
    cases b with
    | true =>
      simp only [if_true, Option.bind_eq_some_iff] at e ⊢
      obtain ⟨dx, h3, i, h4, e⟩ := e
      cases i <;> try (simp only [reduceCtorEq] at e)
      rename_i j
      split at e
      · rename_i hj
        cases e
        simp only [Bool.and_eq_true, decide_eq_true_eq] at hj
        refine wpAny_execs_cons (wpAny_Assign_Subscript (EV.1 _ sc env _ _ dx h3 _ _ _ _ Kk F1.st fun v h2 tk2 H2 k2 r2 => ?_) rfl)
        have F2 := F1.kp H2 k2
        have CL2 := (CL0.kp (k1.trans k2) F.st.x.tb fun b o q e => fx_tb F.st.H q e)
        obtain ⟨okl, frl, cl, hcl, hil⟩ := CL2.hv _ _ hlx
        rw [hsc] at frl
        refine freeName_ok (s := { s with heap := h2, toks := tk2 }) F2.st frl okl (by rw [hcells]; exact hcl) hil ?_
        refine EV.1 _ sc env _ _ _ h4 _ _ _ _ Kk F2.st fun u h3 tk3 H3 k3 r3 => ?_
        obtain ⟨t, rfl⟩ := r3.int_inv
        have k03 := (k1.trans k2).trans k3
        refine setList_ok (s := { s with heap := h3, toks := tk3 }) (X := fun b => X b ∨ b = env.locals) H3 hbL (.inl xL) (HL0.kp k03 F.st.x.tb fun q => nYL (.inl q)) (r2.kp k3 F.st.x.tb) hj.1.1 hj.1.2 hj.2 fun h4 H4 k4 hl4 => ?_
        refine wpAny_execs_cons (wpAny_Return_none ?_)
        exact back h4 tk3 H4 ((k03.mono fun b q => .inl (.inl q)).trans (k4.mono fun b q => .inr q)) hl4
      · cases e
    | false =>
      simp only [Bool.false_eq_true, if_false, Option.bind_eq_some_iff] at e ⊢
      obtain ⟨⟨φ1, r1⟩, h3, e⟩ := e
      cases r1 with
      | some d => simp at e
      | none =>
        simp only [Option.bind_eq_some_iff] at e
        obtain ⟨d1, h4, d2, h5, lm, h6, h7⟩ := e
        refine wpAny_execs_nil ?_
        refine exB_app (exS_ok CO GO N N sc) Kk I.pre _ φ1 _ h3 F1 fun h2 tk2 F2 k2 => ?_
        have k02 : Kp (Yf C sc env) h0 h2 := k1.yf.trans k2
        have hint : interactive env = false := by unfold interactive; rw [F.st.e.fn]; rfl
        have CL2 := CL0.kp k02 (Yf_X F) (yfx F)
        have HL2 := HL0.kp k02 (Yf_X F) nYL
        obtain ⟨okf, frf, cf, hcf, hif⟩ := CL2.hv _ _ hfx
        rw [hsc] at frf
        obtain ⟨o, ho, hd⟩ := CL2.na.ob
        refine wpAny_execs_cons (wpAny_Expr_any ?_ hint rfl)
        refine callF_ok (s := { s with heap := h2, toks := tk2 }) Kk (EV.1 _ sc env φ1) F2.st (fun _ _ _ => trivial) rfl h4 (fun Q' hq => freeName_ok (s := { s with heap := h2, toks := tk2 }) F2.st frf okf (by rw [hcells]; exact hcf) hif hq) ho hd fun vs1 h3 tk3 H3 k3 r3 => ?_
        have F3 := F2.kp H3 k3
        have CL3 := CL2.kp k3 F2.st.x.tb fun b o q e => fx_tb F2.st.H q e
        have HL3 := HL2.kp k3 F2.st.x.tb fun q => nYL (.inl q)
        have len : ∀ {es : List Expr} {φ : Ph} {l : List D}, evs (ev G N sc φ) es = some l → l.length = es.length := by
          intro es
          induction es with
          | nil => intro φ l e; simp only [evs, Option.some.injEq] at e; subst e; rfl
          | cons a es ih =>
            intro φ l e
            have : ∃ d l', evs (ev G N sc φ) es = some l' ∧ l = d :: l' := by
              cases a <;> first
                | (simp only [evs] at e; cases e; done)
                | (simp only [evs, Option.bind_eq_some_iff, Option.some.injEq] at e
                   obtain ⟨d, _, l', h2, rfl⟩ := e
                   exact ⟨d, l', h2, rfl⟩)
            obtain ⟨d, l', e1, rfl⟩ := this
            simp [ih e1]
        refine ih d1 l lm h6 (by rw [len h4, hal.1]) _ _ { s with heap := h3, toks := tk3 } _ _ vs1 Km H3 F3.st.x (.inl xL) HL3 CL3 r3 hal fun h4' tk4 H4 k4 hl4 => ?_
        have exL : ∃ o, h4'.get? L = some o := let ⟨_, _, e, _⟩ := hl4; ⟨_, e⟩
        have ncL : ∀ y c, env.cells.lookup y = some c → c ≠ L := fun y c hc q => by
          rw [hcells] at hc
          obtain ⟨v, o, e1, d1⟩ := CL3.hcc y c hc
          obtain ⟨_, _, e2, _⟩ := HL3
          rw [q, e2] at e1; cases e1
          cases d1
        have F4 := F3.chg H4 k4 (.inl xL) exL neL ncL
        have lfx : ∀ b o, (C.Tb b ∨ b = L) → h3.get? b = some o → ¬ Fxo o := fun b o q e => by
          rcases q with q | q
          · exact fx_tb H3 q e
          · obtain ⟨_, _, e2, _⟩ := HL3
            rw [q, e2] at e; cases e
            exact fx_list
        have CL4 := CL3.kp k4 (fun b q => by rcases q with q | q; exact F3.st.x.tb b q; exact q ▸ .inl xL) lfx
        obtain ⟨okf, frf, cf, hcf, hif⟩ := CL4.hv _ _ hfx
        rw [hsc] at frf
        obtain ⟨o, ho, hd⟩ := CL4.na.ob
        refine wpAny_execs_cons (wpAny_Expr_any ?_ hint rfl)
        refine callF_ok (s := { s with heap := h4', toks := tk4 }) Kk (EV.1 _ sc env φ1) F4.st (fun _ _ _ => trivial) rfl h5 (fun Q' hq => freeName_ok (s := { s with heap := h4', toks := tk4 }) F4.st frf okf (by rw [hcells]; exact hcf) hif hq) ho hd fun vs2 h5' tk5 H5 k5 r5 => ?_
        have F5 := F4.kp H5 k5
        have CL5 := CL4.kp k5 F4.st.x.tb fun b o q e => fx_tb F4.st.H q e
        have HL5 := hl4.kp k5 F4.st.x.tb fun q => nYL (.inl q)
        refine ih d2 lm l' h7 (by rw [len h5, hal.2]) _ _ { s with heap := h5', toks := tk5 } _ _ vs2 Km H5 F5.st.x (.inl xL) HL5 CL5 r5 hal fun h6 tk6 H6 k6 hl6 => ?_
        refine wpAny_execs_nil ?_
        refine back h6 tk6 H6 ?_ hl6
        exact ((((k02.trans k3.yf).mono fun b q => .inl q).trans (k4.mono fun b q => q.imp .inl id)).trans (k5.mono fun b q => .inl (.inl q))).trans (k6.mono fun b q => q.imp .inl id)
end
end Mine
namespace Mine
open PySem PySem.Spec PySem.Calls PyProof.Rows PySem.W
set_option linter.unusedVariables false
set_option maxRecDepth 100000

/-- what the base heap says of the tables -/
structure TbsOk (C : Cfg) : Prop where
  hd : ∀ q ∈ C.tabs, CodeHd C.B q.1 q.2.1
  no : ∀ q ∈ C.tabs, C.B.get? q.2.1 = none
  one : ∀ q ∈ C.tabs, ∀ q' ∈ C.tabs, q.2.1 = q'.2.1 → q = q'
  bm : ∃ bm ob, C.mg "__builtins__" = some (.ref bm) ∧ bm ≠ builtinsNs ∧ bm ≠ mainGlobals ∧ C.B.get? bm = some ob ∧ ob.cls = .type "module" ∧ ob.dict = some builtinsNs ∧ ob.data = .plain

section
variable {C : Cfg} {k : Nat} {sc : Sc} {env : Env} {φ : Ph} {A : Around} {X : Addr → Prop} {E : Value → Shared → Prop} {s : Shared} {h h' : Heap} {ms : Ms}

theorem mkDef_ok {name qual : Str} {params : Arguments} {body : List Stmt} {scope : Scope} {pos : Pos} {c P : Addr} {Q : Flow → Shared → Prop} (CO : CfgOk C) (TO : TbsOk C) (F : FrOk C X sc env φ s.heap) (hq : (c, P, pos, qual) ∈ C.tabs) (hcode : env.code = .ref c)
    (hqual : qualnameIn env name name = qual) (hd0 : params.defaults = []) (hk0 : params.kw_defaults = []) (ha : annTrees params none env = []) (hcl : ∀ p ∈ scope.names, p.2 = .free → (sc.lookup p.1 = some .cell ∨ sc.lookup p.1 = some .free)) (hx : kindSt sc name = true)
    (hco : scope.isCoroutine = false) (hgen : scope.isGenerator = false) (hkind : scope.kind = .function) (hnc : ∀ x ∈ scope.names, x.2 ≠ .cell)
    (h : ∀ f cdv ctv doc pm h' tk, FrOk C X sc env (setA name (.adr f) φ) h' → Kp (Yf C sc env) s.heap h' → s.heap.get? f = none → NestAt h' f (fnX name qual params body scope (clOf env scope.names []) .none .none doc pm none cdv ctv) body → Q .next { s with heap := h', toks := tk }) :
    wpAny (model C.prog C.w) A (exec (.FunctionDef name params body [] none [] scope none name pos) env) Q E s := by
  have H := F.st.H
  have hclo : closureFor scope env = pure (clOf env scope.names []) := closure_eq fun p hp hk => F.st.e.cl p.1 (hcl p hp hk)
  obtain ⟨ps, hP, tr, alt⟩ := H.tabs _ hq
  dsimp only at hP alt
  have hB : C.B.get? P = none := TO.no _ hq
  have cd : CodeHd s.heap c P := (TO.hd _ hq).keeps H.base
  have hg := CO.g.keeps H.base
  have hgP : mainGlobals ≠ P := fun q => by
    obtain ⟨o, es, ep, e, _⟩ := CO.g
    rw [q, hB] at e; cases e
  obtain ⟨bm, ob, b1, b2, b2', b3, b4, b5, b6⟩ := TO.bm
  have hbP : bm ≠ P := fun q => by rw [q, hB] at b3; cases b3
  have BA : s.heap.BuiltinsAt C.mg P := ⟨bm, ob, b1, b2, b2', hbP, H.base _ _ b3, b4, b5, b6⟩
  have fin : ∀ (f : Addr) (cdv ctv doc pm : Value) (h1 : Heap) (tk : Nat), f = h1.objs.size → HOk C (h1.push { cls := .type "function", data := .func (fnX name qual params body scope (clOf env scope.names []) .none .none doc pm none cdv ctv) }) → s.heap.objs.size ≤ h1.objs.size →
      Kp C.Tb s.heap (h1.push { cls := .type "function", data := .func (fnX name qual params body scope (clOf env scope.names []) .none .none doc pm none cdv ctv) }) → h1.CodeRec cdv qual →
      wpAny (model C.prog C.w) A (storeName env name (.ref f)) (fun _ s'' => Q .next s'') E { s with heap := h1.push { cls := .type "function", data := .func (fnX name qual params body scope (clOf env scope.names []) .none .none doc pm none cdv ctv) }, toks := tk } := by
    intro f cdv ctv doc pm h1 tk hf H' hsz k' hrec
    have F' := F.kp H' k'
    refine store_ok (d := .adr f) (s := { s with heap := _, toks := tk }) F' hx (by simp only [Rp]) fun h2 tk2 F2 k2 => ?_
    have k2' : Kp (Yf C sc env) _ h2 := k2.mono fun b q => .inr q
    have fr : s.heap.get? f = none := Heap.get?_none_of_le (by rw [hf]; exact hsz)
    have nY : ¬ Yf C sc env f := fun q => by obtain ⟨o, e⟩ := F.st.x.ex _ (Yf_X F _ q); rw [fr] at e; cases e
    have nfx : ∀ b o, Yf C sc env b → (h1.push { cls := .type "function", data := .func (fnX name qual params body scope (clOf env scope.names []) .none .none doc pm none cdv ctv) }).get? b = some o → ∀ vs s t, o.data = .fields vs → vs[1]? ≠ some (.str s t) := fun b o q e vs s t d1 d2 => by
      rcases q with q | q | ⟨y, hy, q⟩
      · exact fx_tb H' q e (.inr (.inr ⟨vs, s, t, d1, d2⟩))
      · obtain ⟨mm, o', es, ep, e2, d3, _⟩ := F'.ns
        rw [q, e2] at e; cases e
        rw [d3] at d1; cases d1
      · obtain ⟨c, v, a1, ⟨o', e2, d3⟩, _⟩ := F'.cx y hy
        rw [a1] at q; cases q
        rw [e2] at e; cases e
        rw [d3] at d1; cases d1
    refine h f cdv ctv doc pm h2 tk2 F2 (k'.yf.trans k2') fr ⟨⟨_, k2' _ _ nY (by rw [hf]; exact Heap.get?_push_size _ rfl), rfl⟩, hco, hgen, hkind, rfl, rfl, rfl, ?_, hnc⟩
    obtain ⟨cc, oc, vs, t, e1, e2, e3, e4⟩ := hrec
    have e2' := Heap.get?_push_of_some { cls := .type "function", data := .func (fnX name qual params body scope (clOf env scope.names []) .none .none doc pm none cdv ctv) } e2
    exact ⟨cc, oc, vs, t, e1, k2' _ _ (fun q => nfx _ _ q e2' _ _ _ e3 e4) e2', e3, e4⟩
  refine nestDef_K hd0 hk0 ha ?_
  rw [hqual]
  rcases alt with hnf | ⟨c', hf, hrec⟩
  · refine makeFunction_K (mg := C.mg) hclo F.st.e.gl hg hcode cd hP tr hnf hgP BA fun c' ctv doc h1 tk hx1 hge hlt hrec htb => ?_
    refine fin _ (.ref c') ctv doc _ h1 tk rfl (HOk.push ⟨fun b o e => hx1 b o (fun q => by rw [q, hB] at e; cases e) (H.base b o e), fun q' hq' => ?_⟩ _) (Nat.le_of_lt (Nat.lt_of_le_of_lt hge hlt)) ?_ hrec
    · by_cases w : q'.2.1 = P
      · have := TO.one _ hq' _ hq w
        subst this
        refine ⟨_, htb, ?_, .inr ⟨c', ?_, hrec⟩⟩
        · rw [Array.toList_append]; exact TriplesOk_snoc _ _ _ _ tr
        · rw [Array.toList_append]; exact codeAmong_snoc _ tr hnf
      · obtain ⟨ps', e1, e2, e3⟩ := H.tabs _ hq'
        refine ⟨ps', hx1 _ _ w e1, e2, e3.imp id fun ⟨c2, a, c3, o, vs, t, r1, r2, r3, r4⟩ => ⟨c2, a, c3, o, vs, t, r1, hx1 _ _ (fun q => ?_) r2, r3, r4⟩⟩
        exact fx_tb H ⟨_, hq, q.symm⟩ r2 (.inr (.inr ⟨_, _, _, r3, r4⟩))
    · exact (show Kp C.Tb s.heap h1 from fun b o nb e => hx1 b o (fun q => nb ⟨_, hq, q.symm⟩) e).trans (.push _)
  · refine makeFunction_hit (mg := C.mg) hclo F.st.e.gl hg hcode cd hP tr hf BA fun ctv doc h1 tk hk1 hsz => ?_
    exact fin _ (.ref c') ctv doc _ h1 tk rfl ((H.keeps hk1).push _) hsz ((Kp.of hk1).trans (.push _)) (by
      obtain ⟨c3, o, vs, t, r1, r2, r3, r4⟩ := hrec
      exact ⟨c3, o, vs, t, r1, hk1 _ _ r2, r3, r4⟩)
end
end Mine
namespace Mine
open PySem PySem.Spec PySem.Calls PyProof.Rows PySem.W
set_option linter.unusedVariables false
set_option maxRecDepth 100000

def scalar : D → Bool
  | .none => true
  | .bool _ => true
  | .int _ => true
  | _ => false

section
variable {C : Cfg} {k : Nat} {sc : Sc} {env : Env} {φ : Ph} {A : Around} {X : Addr → Prop} {E : Value → Shared → Prop} {s : Shared} {h h' : Heap} {ms : Ms}

theorem Rp.scalar {X X' : Addr → Prop} {h h' : Heap} : ∀ {d : D} {v : Value}, Mine.scalar d = true → Rp X h d v → Rp X' h' d v
  | .none, _, _, x => x
  | .bool _, _, _, x => x
  | .int _, _, _, x => x
  | .adr _, _, e, _ => by simp [Mine.scalar] at e
  | .tup _, _, e, _ => by simp [Mine.scalar] at e
  | .lst _, _, e, _ => by simp [Mine.scalar] at e
  | .rng _ _, _, e, _ => by simp [Mine.scalar] at e
  | .dct _, _, e, _ => by simp [Mine.scalar] at e
  | .itm _, _, e, _ => by simp [Mine.scalar] at e
theorem RpL.scalar {X X' : Addr → Prop} {h h' : Heap} : ∀ {l : List D} {vs : List Value}, l.all Mine.scalar = true → RpL X h l vs → RpL X' h' l vs
  | [], _, _, x => x
  | d :: l, _, e, x => by
    simp only [RpL] at x ⊢
    simp only [List.all_cons, Bool.and_eq_true] at e
    obtain ⟨v, r, e1, a, b⟩ := x
    exact ⟨v, r, e1, a.scalar e.1, RpL.scalar e.2 b⟩

theorem FrOk.sub {φ' : Ph} (F : FrOk C X sc env φ h) (e : ∀ x d, φ'.lookup x = some d → φ.lookup x = some d) : FrOk C X sc env φ' h :=
  let z := F.st.e
  ⟨⟨F.st.H, F.st.x, ⟨z.fn, z.gl, z.bl, z.nl, z.xl, z.nc, z.xc, z.kd, z.cl, fun y d q => z.ld y d (e y d q)⟩⟩, F.ns, F.lB, F.cx, F.ap⟩

/-- all that is there is shunned -/
def Old (h : Heap) (b : Addr) : Prop := ∃ o, h.get? b = some o
theorem FrOk.old (F : FrOk C X sc env φ h) (e : ∀ x d, φ.lookup x = some d → scalar d = true) : FrOk C (Old h) sc env φ h := by
  have z := F.st.e
  have sub : ∀ b, X b → Old h b := F.st.x.ex
  refine ⟨⟨F.st.H, ⟨fun b q => sub b (F.st.x.tb b q), fun b q => q⟩, ⟨z.fn, z.gl, z.bl, z.nl, sub _ z.xl, z.nc, fun y c q => sub _ (z.xc y c q), z.kd, z.cl, fun y d q => ?_⟩⟩, F.ns, F.lB, F.cx, F.ap⟩
  obtain ⟨h1, h2, v, rv, w⟩ := z.ld y d q
  exact ⟨h1, h2, v, rv.scalar (e y d q), w⟩

/-- a new object joins X, the tables may have grown -/
theorem FrOk.growT {I : Addr} (F : FrOk C X sc env φ h) (fr : h.get? I = none) (k : Kp C.Tb h h') (H : HOk C h') (ex : ∃ o, h'.get? I = some o) : FrOk C (fun b => X b ∨ b = I) sc env φ h' := by
  have av : ∀ b o, h.get? b = some o → (X b ∨ b = I) → X b := fun b o e q => q.elim id fun q => by subst q; rw [fr] at e; cases e
  have e1 := (F.st.e.av av fun b q => .inl q).kp (fun b q => .inl (F.st.x.tb b q)) k
  have S2' := F.kp H k
  refine ⟨⟨H, ⟨fun b q => .inl (F.st.x.tb b q), fun b q => ?_⟩, e1⟩, S2'.ns, S2'.lB, S2'.cx, S2'.ap⟩
  rcases q with q | q
  · exact S2'.st.x.ex b q
  · exact q ▸ ex

theorem clOf_mem {env : Env} {y : Str} {c : Addr} : ∀ (names : Sc) (acc : List (Str × Addr)), (clOf env names acc).lookup y = some c → (y, NameKind.free) ∈ names ∨ ∃ c, acc.lookup y = some c
  | [], acc, e => .inr ⟨c, e⟩
  | (n, kd) :: r, acc, e => by
    unfold clOf at e
    split at e
    · rename_i hk
      rcases clOf_mem r _ e with q | ⟨c', q⟩
      · exact .inl (List.mem_cons_of_mem _ q)
      · rw [List.lookup_cons] at q
        by_cases w : y = n
        · subst w
          rw [show kd = .free from by simpa using hk]
          exact .inl List.mem_cons_self
        · rw [beq_eq_false_iff_ne.mpr w] at q
          exact .inr ⟨c', q⟩
    · exact (clOf_mem r _ e).imp (List.mem_cons_of_mem _) id

theorem clo_of {f : Addr} {fd : FuncData} {body : List Stmt} {φc : Ph} {vc : List (Str × Value)} (F : FrOk C X sc env φ h) (na : NestAt h f fd body) (hc : fd.closure = clOf env fd.scope.names [])
    (hcl : ∀ p ∈ fd.scope.names, p.2 = .free → sc.lookup p.1 = some .cell ∧ fd.scope.names.lookup p.1 = some .free)
    (hφ : ∀ y d, φc.lookup y = some d → fd.scope.names.lookup y = some .free ∧ φ.lookup y = some d) (hv : ∀ y v, vc.lookup y = some v → fd.scope.names.lookup y = some .free ∧ ∃ a, v = .ref a ∧ φ.lookup y = some (.adr a)) : Clo C X h f fd body φc vc := by
  have pre : ∀ p ∈ fd.scope.names, p.2 = .free → ∃ c, env.cells.lookup p.1 = some c := fun p hp hk => F.st.e.cl p.1 (.inl (hcl p hp hk).1)
  have snd : ∀ y c, fd.closure.lookup y = some c → env.cells.lookup y = some c := fun y c e => clOf_sound fd.scope.names [] pre (fun _ _ q => by cases q) y c (hc ▸ e)
  have has : ∀ y, fd.scope.names.lookup y = some .free → ∃ c, fd.closure.lookup y = some c := fun y e => by rw [hc]; exact clOf_has fd.scope.names [] y (.inl (mem_lookup e))
  have get : ∀ y d, fd.scope.names.lookup y = some .free → φ.lookup y = some d → okName y = true ∧ ∃ c v, fd.closure.lookup y = some c ∧ h.IsCell c (some v) ∧ Rp X h d v := fun y d hf e => by
    obtain ⟨h1, h2, v, rv, w⟩ := F.st.e.ld y d e
    have hcell := (hcl _ (mem_lookup hf) rfl).1
    dsimp only at hcell
    rcases w with ⟨w, _⟩ | ⟨_, c, w1, w2⟩
    · rw [hcell] at w; cases w
    · obtain ⟨c', hc'⟩ := has y hf
      have := snd y c' hc'
      rw [w1] at this; cases this
      exact ⟨by simp [okName, h1, h2], c, v, hc', w2, rv⟩
  refine ⟨na, fun y c e => ⟨F.st.e.xc _ _ (snd y c e), F.st.e.nc _ _ (snd y c e)⟩, fun y c e => ?_, has, fun x y c h1 h2 => F.ap x y c (snd _ _ h1) (snd _ _ h2), fun y d e => ?_, fun y v e => ?_⟩
  · have hm : (y, NameKind.free) ∈ fd.scope.names := by
      rcases clOf_mem fd.scope.names [] (hc ▸ e) with q | ⟨_, q⟩
      · exact q
      · cases q
    obtain ⟨c', v, e1, e2, _⟩ := F.cx y (hcl _ hm rfl).1
    rw [snd y c e] at e1; cases e1
    exact ⟨v, e2⟩
  · obtain ⟨a, b⟩ := hφ y d e
    obtain ⟨ok, c, v, e1, e2, e3⟩ := get y d a b
    exact ⟨ok, a, c, v, e1, e2, e3⟩
  · obtain ⟨a, ad, rfl, b⟩ := hv y v e
    obtain ⟨ok, c, v, e1, e2, e3⟩ := get y _ a b
    simp only [Rp] at e3; subst e3
    exact ⟨ok, a, c, e1, e2⟩
end

/-- the shape of the def that lays the figures -/
structure In0 where
  dx : Str
  dxp : Pos
  e0 : Expr
  p0 : Pos
  nm : Str
  params : Arguments
  I : In1
  scope : Scope
  dp : Pos
  t : Expr
  fp : Pos
  args : List Expr
  cp : Pos
  ep : Pos
  ip : Pos
  rp1 : Pos
  rp2 : Pos
def In0.body (J : In0) : List Stmt :=
  [.Assign [.Name J.dx J.dxp] J.e0 J.p0, .FunctionDef J.nm J.params J.I.body [] none [] J.scope none J.nm J.dp, .If J.t [.Expr (.Call (.Name J.nm J.fp) J.args [] J.cp) J.ep] [] J.ip, .Return (some (.Name J.dx J.rp1)) J.rp2]

def i2d (G : Fn) (N : Nat) (sc : Sc) (ps ips : List Str) (J : In0) (m : Nat) (ds : List D) : Option D :=
  (ev G N sc (ps.zip ds) J.e0).bind fun d0 => match d0 with
    | .lst l0 => if l0.all scalar then
        (ev G N sc (ps.zip ds) J.t).bind fun c => (truthD c).bind fun b => if b then
          (evs (ev G N sc ((J.dx, .lst l0) :: ps.zip ds)) J.args).bind fun d1 => if solidL d1 then (dig G N J.scope.names ips (keepFree J.scope.names (ps.zip ds)) J.I m d1 l0).map .lst else none
        else some (.lst l0)
      else none
    | _ => none

/-- what is looked up of the shape, once -/
def In0.ok (J : In0) (sc : Sc) (ps ips : List Str) : Bool :=
  !ps.contains J.dx && !ps.contains J.nm && !(J.dx == J.nm) && kindSt sc J.dx && kindSt sc J.nm && sc.lookup J.dx == some .cell && sc.lookup J.nm == some .cell && J.I.fx == J.nm && J.I.lx == J.dx
    && J.scope.names.lookup J.dx == some .free && J.scope.names.lookup J.nm == some .free && J.scope.names.all (fun p => p.2 != .cell && (p.2 != .free || (sc.lookup p.1 == some .cell && J.scope.names.lookup p.1 == some .free)))
    && decide ips.Nodup && ips.all (fun p => okName p && J.scope.names.lookup p == some .local) && decide (J.I.a1.length = ips.length) && decide (J.I.a2.length = ips.length) && decide (J.args.length = ips.length)
    && !J.scope.isCoroutine && !J.scope.isGenerator && (J.scope.kind == .function)

section
variable {C : Cfg} {k : Nat} {G : Fn} {N m : Nat}

theorem evs_len {f : Expr → Option D} : ∀ {es : List Expr} {l : List D}, evs f es = some l → l.length = es.length
  | [], l, e => by simp only [evs, Option.some.injEq] at e; subst e; rfl
  | a :: es, l, e => by
    have : ∃ d l', evs f es = some l' ∧ l = d :: l' := by
      cases a <;> first
        | (simp only [evs] at e; cases e; done)
        | (simp only [evs, Option.bind_eq_some_iff, Option.some.injEq] at e
           obtain ⟨d, _, l', h2, rfl⟩ := e
           exact ⟨d, l', h2, rfl⟩)
    obtain ⟨d, l', e1, rfl⟩ := this
    simp [evs_len e1]

theorem i2d_ok {a c P : Addr} {fd : FuncData} {J : In0} {ps ips : List Str} {ds : List D} {r : D} (CO : CfgOk C) (TO : TbsOk C) (GO : GOk C k G) (DA : DefAt C a fd J.body) (hsc : defSc fd.scope.names ps = true) (hJ : J.ok fd.scope.names ps ips = true) (hds : ds.length = ps.length) (hsd : ds.all scalar = true)
    (hb : ∀ (vs : List Value) (s : Shared), HOk C s.heap → vs.length = ds.length → BindsTo s fd ⟨vs, []⟩ (ps.zip vs)) (hq : (c, P, J.dp, fd.qualname ++ ".<locals>." ++ J.nm) ∈ C.tabs) (hcode : fd.code = .ref c)
    (hd0 : J.params.defaults = []) (hk0 : J.params.kw_defaults = []) (ha : ∀ env, annTrees J.params none env = [])
    (hib : ∀ cl doc pm cdv ctv (vs : List Value), vs.length = ips.length → bindArgs (fnX J.nm (fd.qualname ++ ".<locals>." ++ J.nm) J.params J.I.body J.scope cl .none .none doc pm none cdv ctv) ⟨vs, []⟩ = pure (ips.zip vs))
    (hnl : ∀ elt gens scope pos, J.e0 ≠ .ListComp elt gens scope pos) (ev : i2d G N fd.scope.names ps ips J m ds = some r) : CallOk C (k + m + 1) (.ref a) ds r := by
  intro A X vs s Q E K H x rv h
  simp only [In0.ok, Bool.and_eq_true, Bool.not_eq_true', beq_iff_eq, decide_eq_true_eq] at hJ
  obtain ⟨⟨⟨⟨⟨⟨⟨⟨⟨⟨⟨⟨⟨⟨⟨⟨⟨⟨⟨j1, j2⟩, j3⟩, j4⟩, j5⟩, j6⟩, j7⟩, j8⟩, j9⟩, j10⟩, j11⟩, j12⟩, j13⟩, j14⟩, j15⟩, j16⟩, j17⟩, j18⟩, j19⟩, j20⟩ := hJ
  have j3' : (J.dx == J.nm) = false := j3
  have j12' : ∀ p ∈ J.scope.names, p.2 ≠ .cell ∧ (p.2 = .free → fd.scope.names.lookup p.1 = some .cell ∧ J.scope.names.lookup p.1 = some .free) := fun p hp => by
    have := List.all_eq_true.mp j12 p hp
    simp only [Bool.and_eq_true, bne_iff_ne, ne_eq, Bool.or_eq_true, beq_iff_eq] at this
    exact ⟨this.1, fun q => this.2.resolve_left fun w => w q⟩
  have j14' : ∀ p ∈ ips, okName p = true ∧ J.scope.names.lookup p = some .local := fun p hp => by
    have := List.all_eq_true.mp j14 p hp
    simpa only [Bool.and_eq_true, beq_iff_eq] using this
  have np : ∀ {y d}, (ps.zip ds).lookup y = some d → y ≠ J.dx ∧ y ≠ J.nm ∧ scalar d = true := fun {y d} e => by
    have hm := List.of_mem_zip (mem_of_lookup e)
    refine ⟨fun q => ?_, fun q => ?_, List.all_eq_true.mp hsd _ hm.2⟩
    · subst q; simp [List.contains_iff_mem, hm.1] at j1
    · subst q; simp [List.contains_iff_mem, hm.1] at j2
  refine enter_ok CO DA hsc K H x rv (hb vs s H rv.length) fun env s' hs kp fr F hcd hqu => ?_
  obtain ⟨h0, tk0, rfl⟩ := hs
  dsimp only at kp F
  have Km : Aok (k + m) (A.deeper env) := K.deeper
  have Kk : Aok k (A.deeper env) := Km.mono (by omega)
  have EV := ev_ok CO GO N
  generalize hX : (fun b => X b ∨ b = env.locals ∨ ∃ y, env.cells.lookup y = some b) = X1 at F
  simp only [i2d, Option.bind_eq_some_iff] at ev
  obtain ⟨d0, h1, ev⟩ := ev
  cases d0 <;> try (simp only [reduceCtorEq] at ev)
  rename_i l0
  split at ev
  · rename_i hsl
    simp only [Option.bind_eq_some_iff] at ev
    obtain ⟨cnd, h2, b, h3, ev⟩ := ev
    show wpAny _ _ (execs [.Assign [.Name J.dx J.dxp] J.e0 J.p0, .FunctionDef J.nm J.params J.I.body [] none [] J.scope none J.nm J.dp, .If J.t [.Expr (.Call (.Name J.nm J.fp) J.args [] J.cp) J.ep] [] J.ip, .Return (some (.Name J.dx J.rp1)) J.rp2] env) _ _ _
    refine wpAny_execs_cons (wpAny_Assign_Name (EV.1 (Old h0) fd.scope.names env _ J.e0 _ h1 _ _ _ _ Kk (F.old (fun x d e => (np e).2.2)).st fun v h1' tk1 H1 k1 r1 => ?_) (swaps_no h1 hnl))
    obtain ⟨L, ws, n, rfl, nL, gL, rL⟩ := r1.lst_inv
    have frL : h0.get? L = none := by
      cases q : h0.get? L with
      | none => rfl
      | some o => exact absurd ⟨_, q⟩ nL
    have nX1 : ¬ X1 L := fun q => nL (F.st.x.ex _ q)
    have nYL : ¬ Yf C fd.scope.names env L := fun q => nX1 (Yf_X F _ q)
    have F1 : FrOk C (fun b => X1 b ∨ b = L) fd.scope.names env (ps.zip ds) h1' := F.growT frL k1 H1 ⟨_, gL⟩
    refine store_ok (d := .adr L) (s := { s with heap := h1', toks := tk1 }) F1 j4 (by simp only [Rp]) fun h2' tk2 F2 k2 => ?_
    have k2' : Kp (Yf C fd.scope.names env) h1' h2' := k2.mono fun b q => .inr q
    have gL2 := k2' _ _ nYL gL
    have kdn : env.kindOf J.nm = some .cell := by
      rcases F.st.e.kd J.nm with q | ⟨q, _⟩
      · rw [q]; exact j7
      · rw [j7] at q; cases q
    have hqual : qualnameIn env J.nm J.nm = fd.qualname ++ ".<locals>." ++ J.nm := by
      unfold qualnameIn
      rw [kdn, hqu]; rfl
    refine wpAny_execs_cons (mkDef_ok (s := { s with heap := h2', toks := tk2 }) CO TO F2 hq (hcd.trans hcode) hqual hd0 hk0 (ha env) (fun p hp hk => .inl ((j12' p hp).2 hk).1) j5 j18 j19 j20 (fun p hp => (j12' p hp).1) fun f cdv ctv doc pm h3' tk3 F3 k3 fr3 na => ?_)
    dsimp only at k3 fr3 na F3
    have subs : ∀ y d, ((J.dx, D.adr L) :: ps.zip ds).lookup y = some d → (setA J.nm (.adr f) (setA J.dx (.adr L) (ps.zip ds))).lookup y = some d := fun y d e => by
      rw [List.lookup_cons] at e
      rw [lookup_setA, lookup_setA]
      by_cases w : y = J.dx
      · subst w
        simp only [beq_self_eq_true] at e
        rw [if_neg (fun q => by rw [q] at j3; simp at j3), if_pos rfl]; exact e
      · rw [beq_eq_false_iff_ne.mpr w] at e
        rw [if_neg (np e).2.1, if_neg w]; exact e
    have subn : (setA J.nm (.adr f) (setA J.dx (.adr L) (ps.zip ds))).lookup J.nm = some (.adr f) := by rw [lookup_setA, if_pos rfl]
    have eX : ∀ l, Xm X1 [(J.dx, L, l)] = fun b => X1 b ∨ b = L := fun l => funext fun b => propext (or_congr_right ⟨fun ⟨q, hq, e⟩ => by
      rw [List.mem_singleton] at hq; subst hq; exact e.symm, fun e => ⟨_, List.mem_singleton.mpr rfl, e.symm⟩⟩)
    have k13 : Kp (Yf C fd.scope.names env) h1' h3' := k2'.trans k3
    have gL3 := k13 _ _ nYL gL
    have M3 : MFr C X1 fd.scope.names env ((J.dx, D.adr L) :: ps.zip ds) [(J.dx, L, l0)] h3' := by
      refine ⟨by rw [eX]; exact F3.sub subs, F.st.x.tb, F.st.e.xl, F.st.e.xc, fun q hq => ?_, by simp⟩
      rw [List.mem_singleton] at hq; subst hq
      exact ⟨⟨ws, n, gL3, rL.scalar hsl⟩, F.st.H.baseNone frL, nX1, by rw [List.lookup_cons]; simp⟩
    have CL3 : Clo C (Xm X1 [(J.dx, L, l0)]) h3' f (fnX J.nm (fd.qualname ++ ".<locals>." ++ J.nm) J.params J.I.body J.scope (clOf env J.scope.names []) .none .none doc pm none cdv ctv) J.I.body (keepFree J.scope.names (ps.zip ds)) [(J.nm, .ref f), (J.dx, .ref L)] := by
      rw [eX]
      refine clo_of F3 na rfl (fun p hp hk => (j12' p hp).2 hk) (fun y d e => ?_) fun y v e => ?_
      · obtain ⟨a1, a2⟩ := lookup_keepFree e
        refine ⟨a1, subs y d ?_⟩
        rw [List.lookup_cons, beq_eq_false_iff_ne.mpr (np a2).1]; exact a2
      · rw [List.lookup_cons] at e
        by_cases w : y = J.nm
        · subst w
          simp only [beq_self_eq_true, Option.some.injEq] at e; subst e
          exact ⟨j11, f, rfl, subn⟩
        · rw [beq_eq_false_iff_ne.mpr w, List.lookup_cons] at e
          by_cases w2 : y = J.dx
          · subst w2
            simp only [beq_self_eq_true, Option.some.injEq] at e; subst e
            exact ⟨j10, L, rfl, subs _ _ (by rw [List.lookup_cons]; simp)⟩
          · rw [beq_eq_false_iff_ne.mpr w2] at e; cases e
    -- the last statement
    have last : ∀ h4 tk4 l', MFr C X1 fd.scope.names env ((J.dx, D.adr L) :: ps.zip ds) [(J.dx, L, l')] h4 → Kp (fun b => Yf C fd.scope.names env b ∨ b = L) h3' h4 → r = .lst l' →
        wpAny (model C.prog C.w) (A.deeper env) (execs [.Return (some (.Name J.dx J.rp1)) J.rp2] env) (fun f s'' => Q (match f with | .ret v => v | _ => .none) s'') (fun _ _ => False) { s with heap := h4, toks := tk4 } := by
      intro h4 tk4 l' M4 k4 hr
      subst hr
      refine wpAny_execs_cons (wpAny_Return_some (Name_ok (d := .lst l') (s := { s with heap := h4, toks := tk4 }) M4.seen.st (by simp [view]) fun v h5 tk5 H5 k5 r5 => ?_))
      refine h v h5 tk5 H5 (fun b o nb eb => ?_) (r5.av fun b _ _ q => by rw [← hX]; exact .inl q)
      have e0 := kp b o eb
      have bL : b ≠ L := fun q => by rw [q, frL] at e0; cases e0
      have nY : ¬ Yf C fd.scope.names env b := by
        rintro (q | q | ⟨y, _, q⟩)
        · exact nb q
        · rw [fr b (.inl q)] at eb; cases eb
        · rw [fr b (.inr ⟨y, q⟩)] at eb; cases eb
      exact k5 b o nb (k4 b o (fun q => q.elim nY bL) (k13 b o nY (k1 b o nb e0)))
    have FZ : FrOk C (fun b => X1 b ∨ b = L) fd.scope.names env (ps.zip ds) h3' := F3.sub fun y d e => subs y d (by rw [List.lookup_cons, beq_eq_false_iff_ne.mpr (np e).1]; exact e)
    have hint : interactive env = false := by unfold interactive; rw [F.st.e.fn]; rfl
    refine wpAny_execs_cons (wpAny_If (EV.2 _ fd.scope.names env (ps.zip ds) J.t cnd b h2 h3 _ { s with heap := h3', toks := tk3 } _ _ Kk FZ.st fun h4 tk4 H4 k4 => ?_))
    dsimp only at k4
    cases b with
    | false =>
      simp only [Bool.false_eq_true, if_false, Option.some.injEq] at ev ⊢
      exact wpAny_execs_nil (last h4 tk4 l0 (M3.kp H4 k4) (k4.mono fun b q => .inl (.inl q)) ev.symm)
    | true =>
      simp only [if_true, Option.bind_eq_some_iff] at ev ⊢
      obtain ⟨d1, h5, ev⟩ := ev
      split at ev
      · rename_i hsol
        simp only [Option.map_eq_some_iff] at ev
        obtain ⟨l', h6, rfl⟩ := ev
        have M4 := M3.kp H4 k4
        have CL4 := CL3.kp k4 M3.fr.st.x.tb fun b o q e => fx_tb M3.fr.st.H q e
        have FV : FrOk C X1 fd.scope.names env ((J.dx, .lst l0) :: ps.zip ds) h4 := M4.seen.sub fun y d e => by
          rw [view, List.map_cons, List.map_nil, List.cons_append, List.nil_append]
          rw [List.lookup_cons] at e ⊢
          by_cases w : y = J.dx
          · subst w; simpa using e
          · rw [beq_eq_false_iff_ne.mpr w] at e ⊢
            rw [List.lookup_cons, beq_eq_false_iff_ne.mpr w]; exact e
        have hnf : ((J.nm, Value.ref f) :: [(J.dx, Value.ref L)]).lookup J.nm = some (.ref f) := by rw [List.lookup_cons]; simp
        have hnL : ((J.nm, Value.ref f) :: [(J.dx, Value.ref L)]).lookup J.dx = some (.ref L) := by rw [List.lookup_cons, j3', List.lookup_cons]; simp
        obtain ⟨okf, frf, cf, hcf, hif⟩ := CL4.hv _ _ hnf
        obtain ⟨cw, vw, ew, iw, _⟩ := FV.cx J.nm j7
        obtain ⟨o, ho, hd⟩ := CL4.na.ob
        refine wpAny_execs_cons (wpAny_Expr_any ?_ hint rfl)
        have nmc : env.cells.lookup J.nm = some cf := clOf_sound J.scope.names [] (fun p hp hk => F.st.e.cl p.1 (.inl ((j12' p hp).2 hk).1)) (fun _ _ q => by cases q) _ _ hcf
        refine callF_ok (s := { s with heap := h4, toks := tk4 }) Kk (EV.1 X1 fd.scope.names env _) FV.st (fun _ _ _ => trivial) rfl h5 (fun Q' hq => cellName_ok (s := { s with heap := h4, toks := tk4 }) FV.st j7 okf nmc hif hq) ho hd fun vs1 h5' tk5 H5 k5 r5 => ?_
        dsimp only at k5
        have M5 := M4.kp H5 k5
        have CL5 := CL4.kp k5 M4.fr.st.x.tb fun b o q e => fx_tb M4.fr.st.H q e
        refine inner1_ok (sc := J.scope.names) (ps := ips) (φc := keepFree J.scope.names (ps.zip ds)) (I := J.I) CO GO j13 j14' rfl (by rw [j8]; exact hnf) (by rw [j9]; exact hnL) (fun vs hl => hib _ _ _ _ _ vs hl) (F.st.H.baseNone frL) m d1 l0 l' h6 (by rw [evs_len h5, j17]) _ _ { s with heap := h5', toks := tk5 } _ _ vs1 Km H5 M5.fr.st.x
          (.inr ⟨_, List.mem_singleton.mpr rfl, rfl⟩) (M5.ls _ (List.mem_singleton.mpr rfl)).1 CL5 (r5.solid M5.hm hsol) ⟨j15, j16⟩ fun h6' tk6 H6 k6 hl6 => ?_
        dsimp only at k6
        have M6 := M5.change (a := L) ⟨_, List.mem_singleton.mpr rfl, rfl⟩ H6 k6 hl6
        simp only [setM, List.map_cons, List.map_nil, if_true] at M6
        refine wpAny_execs_nil (last h6' tk6 l' M6 ?_ rfl)
        exact ((k4.trans k5).mono fun b q => .inl (.inl q)).trans (k6.mono fun b q => q.imp .inl id)
      · cases ev
  · cases ev
end
end Mine
namespace Mine
open PySem PySem.Spec PySem.Calls PyProof.Rows PySem.W
set_option linter.unusedVariables false
set_option maxRecDepth 100000

/-- the shape of the nested def that sums the figures -/
structure Jn1 where
  t : Expr
  ip : Pos
  rt : Expr
  rtp : Pos
  pre : List Stmt
  fx : Str
  f1p : Pos
  a1 : List Expr
  c1p : Pos
  o1 : Operator
  sh : Expr
  b1p : Pos
  o2 : Operator
  f2p : Pos
  a2 : List Expr
  c2p : Pos
  b2p : Pos
  rp : Pos
def Jn1.body (I : Jn1) : List Stmt :=
  .If I.t [.Return (some I.rt) I.rtp] [] I.ip ::
    (I.pre ++ [.Return (some (.BinOp (.BinOp (.Call (.Name I.fx I.f1p) I.a1 [] I.c1p) I.o1 I.sh I.b1p) I.o2 (.Call (.Name I.fx I.f2p) I.a2 [] I.c2p) I.b2p)) I.rp])

def d2 (G : Fn) (N : Nat) (sc : Sc) (ps : List Str) (φc : Ph) (I : Jn1) : Nat → List D → Option D
  | 0, _ => none
  | m + 1, ds =>
    (ev G N sc (ps.zip ds ++ φc) I.t).bind fun c => (truthD c).bind fun b => if b then ev G N sc (ps.zip ds ++ φc) I.rt
     else (exB (exS G N N sc) I.pre (ps.zip ds ++ φc)).bind fun o => match o.2 with
       | some _ => none
       | none => (evs (ev G N sc o.1) I.a1).bind fun d1 => (d2 G N sc ps φc I m d1).bind fun x => (ev G N sc o.1 I.sh).bind fun y => (binD I.o1 x y).bind fun z =>
         (evs (ev G N sc o.1) I.a2).bind fun d3 => (d2 G N sc ps φc I m d3).bind fun u => binD I.o2 z u

section
variable {C : Cfg} {k : Nat} {G : Fn} {N : Nat} {sc : Sc} {ps : List Str} {φc : Ph} {I : Jn1}

theorem inner2_ok (CO : CfgOk C) (GO : GOk C k G) (hnd : ps.Nodup) (hps : ∀ p ∈ ps, okName p = true ∧ sc.lookup p = some .local) {f : Addr} {fd : FuncData} {vc : List (Str × Value)} (hsc : fd.scope.names = sc)
    (hfx : vc.lookup I.fx = some (.ref f)) (hb : ∀ vs : List Value, vs.length = ps.length → bindArgs fd ⟨vs, []⟩ = pure (ps.zip vs)) (hal : I.a1.length = ps.length ∧ I.a2.length = ps.length) :
    ∀ m ds r, d2 G N sc ps φc I m ds = some r → ds.length = ps.length → ∀ (A : Around) (X : Addr → Prop) (s : Shared) (Q E : Value → Shared → Prop) (vs : List Value), Aok (k + m) A → HOk C s.heap → XOk C X s.heap →
    Clo C X s.heap f fd I.body φc vc → RpL X s.heap ds vs → Ret C X s r Q → wpAny (model C.prog C.w) A (call (.ref f) vs) Q E s := by
  intro m
  induction m with
  | zero => intro ds r e; simp [d2] at e
  | succ m ih =>
    intro ds r e hds A X s Q E vs K H x CL rv h
    have EV := ev_ok CO GO N
    refine enterN_ok (k := k + m) CO CL.na hnd (hsc ▸ hps) K H x rv (hb vs (by rw [rv.length, hds])) CL.hcx CL.hcl CL.hap CL.hφ fun env s' hs kp fr F hcells => ?_
    rw [hsc] at F
    obtain ⟨h0, tk0, rfl⟩ := hs
    dsimp only at kp
    have Km : Aok (k + m) (A.deeper env) := K.deeper
    have Kk : Aok k (A.deeper env) := Km.mono (by omega)
    have av : ∀ b o, s.heap.get? b = some o → (X b ∨ b = env.locals) → X b := fun b o e q => q.elim id fun q => by subst q; rw [fr] at e; cases e
    have CL0 : Clo C (fun b => X b ∨ b = env.locals) h0 f fd I.body φc vc := (CL.grow (X' := fun b => X b ∨ b = env.locals) av fun b q => .inl q).kp (Y := fun _ => False) (fun b o _ e => kp b o e) (fun _ q => q.elim) fun _ _ q => q.elim
    have yfx : ∀ {h' φ'}, FrOk C (fun b => X b ∨ b = env.locals) sc env φ' h' → ∀ b o, Yf C sc env b → h'.get? b = some o → ¬ Fxo o := fun {h' φ'} F' b o q e => by
      rcases q with q | q | ⟨y, q, _⟩
      · exact fx_tb F'.st.H q e
      · obtain ⟨mm, o', es, ep, e2, d2, _⟩ := F'.ns
        rw [q, e2] at e; cases e
        rintro (⟨fd, x⟩ | ⟨v, x⟩ | ⟨vs, s, t, x, y⟩) <;> rw [d2] at x <;> cases x
      · rw [← hsc] at q; exact absurd rfl (CL.na.nc _ (mem_lookup q))
    have back : ∀ v h' tk, HOk C h' → Kp (Yf C sc env) h0 h' → Rp (fun b => X b ∨ b = env.locals) h' r v → Q v { s with heap := h', toks := tk } := fun v h' tk H' k' r' => by
      refine h v h' tk H' (fun b o nb eb => k' b o ?_ (kp b o eb)) (r'.av fun b _ _ q => .inl q)
      rintro (q | q | ⟨y, q, _⟩)
      · exact nb q
      · rw [q, fr] at eb; cases eb
      · rw [← hsc] at q; exact absurd rfl (CL.na.nc _ (mem_lookup q))
    simp only [d2, Option.bind_eq_some_iff] at e
    obtain ⟨c, h1, b, h2, e⟩ := e
    show wpAny _ _ (execs (_ :: _) env) _ _ _
    refine wpAny_execs_cons (wpAny_If (EV.2 _ sc env _ I.t c b h1 h2 _ _ _ _ Kk F.st fun h1 tk1 H1 k1 => ?_))
    have F1 := F.kp H1 k1
    cases b with
    | true =>
      simp only [if_true] at e ⊢
      refine wpAny_execs_cons (wpAny_Return_some (EV.1 _ sc env _ _ _ e _ _ _ _ Kk F1.st fun v h2 tk2 H2 k2 r2 => ?_))
      exact back v h2 tk2 H2 (k1.trans k2).yf r2
    | false =>
      simp only [Bool.false_eq_true, if_false, Option.bind_eq_some_iff] at e ⊢
      obtain ⟨⟨φ1, r1⟩, h3, e⟩ := e
      cases r1 with
      | some d => simp at e
      | none =>
        simp only [Option.bind_eq_some_iff] at e
        obtain ⟨d1, h4, x1, h5, y1, h6, z1, h7, d3, h8, u1, h9, h10⟩ := e
        refine wpAny_execs_nil ?_
        refine exB_app (exS_ok CO GO N N sc) Kk I.pre _ φ1 _ h3 F1 fun h2 tk2 F2 k2 => ?_
        have k02 : Kp (Yf C sc env) h0 h2 := k1.yf.trans k2
        have CL2 := CL0.kp k02 (Yf_X F) (yfx F)
        obtain ⟨okf, frf, cf, hcf, hif⟩ := CL2.hv _ _ hfx
        rw [hsc] at frf
        obtain ⟨o, ho, hd⟩ := CL2.na.ob
        refine wpAny_execs_cons (wpAny_Return_some (wpAny_BinOp (wpAny_BinOp ?_)))
        refine callF_ok (s := { s with heap := h2, toks := tk2 }) Kk (EV.1 _ sc env φ1) F2.st (fun _ _ _ => trivial) rfl h4 (fun Q' hq => freeName_ok (s := { s with heap := h2, toks := tk2 }) F2.st frf okf (by rw [hcells]; exact hcf) hif hq) ho hd fun vs1 h3 tk3 H3 k3 r3 => ?_
        have F3 := F2.kp H3 k3
        have CL3 := CL2.kp k3 F2.st.x.tb fun b o q e => fx_tb F2.st.H q e
        refine ih d1 x1 h5 (by rw [evs_len h4, hal.1]) _ _ { s with heap := h3, toks := tk3 } _ _ vs1 Km H3 F3.st.x CL3 r3 fun v4 h4' tk4 H4 k4 r4 => ?_
        have F4 := F3.kp H4 k4
        have CL4 := CL3.kp k4 F3.st.x.tb fun b o q e => fx_tb H3 q e
        refine EV.1 _ sc env φ1 I.sh y1 h6 _ { s with heap := h4', toks := tk4 } _ _ Kk F4.st fun v5 h5' tk5 H5 k5 r5 => ?_
        have F5 := F4.kp H5 k5
        have CL5 := CL4.kp k5 F4.st.x.tb fun b o q e => fx_tb H4 q e
        refine bin_ok (s := { s with heap := h5', toks := tk5 }) Kk H5 F5.st.x (r4.kp k5 F4.st.x.tb) r5 h7 fun v6 h6' tk6 H6 k6 r6 => ?_
        have F6 := F5.kp H6 k6
        have CL6 := CL5.kp k6 F5.st.x.tb fun b o q e => fx_tb H5 q e
        obtain ⟨okf, frf, cf, hcf, hif⟩ := CL6.hv _ _ hfx
        rw [hsc] at frf
        obtain ⟨o, ho, hd⟩ := CL6.na.ob
        refine callF_ok (s := { s with heap := h6', toks := tk6 }) Kk (EV.1 _ sc env φ1) F6.st (fun _ _ _ => trivial) rfl h8 (fun Q' hq => freeName_ok (s := { s with heap := h6', toks := tk6 }) F6.st frf okf (by rw [hcells]; exact hcf) hif hq) ho hd fun vs7 h7' tk7 H7 k7 r7 => ?_
        have F7 := F6.kp H7 k7
        have CL7 := CL6.kp k7 F6.st.x.tb fun b o q e => fx_tb H6 q e
        refine ih d3 u1 h9 (by rw [evs_len h8, hal.2]) _ _ { s with heap := h7', toks := tk7 } _ _ vs7 Km H7 F7.st.x CL7 r7 fun v8 h8' tk8 H8 k8 r8 => ?_
        have F8 := F7.kp H8 k8
        refine bin_ok (s := { s with heap := h8', toks := tk8 }) Kk H8 F8.st.x ((r6.kp k7 F6.st.x.tb).kp k8 F7.st.x.tb) r8 h10 fun v9 h9' tk9 H9 k9 r9 => ?_
        exact back v9 h9' tk9 H9 (k02.trans ((((((k3.trans k4).trans k5).trans k6).trans k7).trans k8).trans k9).yf) r9
end

/-- the shape of the def that sums the figures -/
structure Jn0 where
  nm : Str
  params : Arguments
  I : Jn1
  scope : Scope
  dp : Pos
  t : Expr
  fp : Pos
  args : List Expr
  cp : Pos
  z : Expr
  xp : Pos
  rp : Pos
def Jn0.body (J : Jn0) : List Stmt :=
  [.FunctionDef J.nm J.params J.I.body [] none [] J.scope none J.nm J.dp, .Return (some (.IfExp J.t (.Call (.Name J.nm J.fp) J.args [] J.cp) J.z J.xp)) J.rp]

def d2i (G : Fn) (N : Nat) (sc : Sc) (ps ips : List Str) (J : Jn0) (m : Nat) (ds : List D) : Option D :=
  (ev G N sc (ps.zip ds) J.t).bind fun c => (truthD c).bind fun b => if b then
      (evs (ev G N sc (ps.zip ds)) J.args).bind fun d1 => d2 G N J.scope.names ips (keepFree J.scope.names (ps.zip ds)) J.I m d1
    else ev G N sc (ps.zip ds) J.z

def Jn0.ok (J : Jn0) (sc : Sc) (ps ips : List Str) : Bool :=
  !ps.contains J.nm && kindSt sc J.nm && sc.lookup J.nm == some .cell && J.I.fx == J.nm
    && J.scope.names.lookup J.nm == some .free && J.scope.names.all (fun p => p.2 != .cell && (p.2 != .free || (sc.lookup p.1 == some .cell && J.scope.names.lookup p.1 == some .free)))
    && decide ips.Nodup && ips.all (fun p => okName p && J.scope.names.lookup p == some .local) && decide (J.I.a1.length = ips.length) && decide (J.I.a2.length = ips.length) && decide (J.args.length = ips.length)
    && !J.scope.isCoroutine && !J.scope.isGenerator && (J.scope.kind == .function)

section
variable {C : Cfg} {k : Nat} {G : Fn} {N m : Nat}
theorem d2i_ok {a c P : Addr} {fd : FuncData} {J : Jn0} {ps ips : List Str} {ds : List D} {r : D} (CO : CfgOk C) (TO : TbsOk C) (GO : GOk C k G) (DA : DefAt C a fd J.body) (hsc : defSc fd.scope.names ps = true) (hJ : J.ok fd.scope.names ps ips = true) (hds : ds.length = ps.length)
    (hb : ∀ (vs : List Value) (s : Shared), HOk C s.heap → vs.length = ds.length → BindsTo s fd ⟨vs, []⟩ (ps.zip vs)) (hq : (c, P, J.dp, fd.qualname ++ ".<locals>." ++ J.nm) ∈ C.tabs) (hcode : fd.code = .ref c)
    (hd0 : J.params.defaults = []) (hk0 : J.params.kw_defaults = []) (ha : ∀ env, annTrees J.params none env = [])
    (hib : ∀ cl doc pm cdv ctv (vs : List Value), vs.length = ips.length → bindArgs (fnX J.nm (fd.qualname ++ ".<locals>." ++ J.nm) J.params J.I.body J.scope cl .none .none doc pm none cdv ctv) ⟨vs, []⟩ = pure (ips.zip vs))
    (ev : d2i G N fd.scope.names ps ips J m ds = some r) : CallOk C (k + m + 1) (.ref a) ds r := by
  intro A X vs s Q E K H x rv h
  simp only [Jn0.ok, Bool.and_eq_true, Bool.not_eq_true', beq_iff_eq, decide_eq_true_eq] at hJ
  obtain ⟨⟨⟨⟨⟨⟨⟨⟨⟨⟨⟨⟨⟨j2, j5⟩, j7⟩, j8⟩, j11⟩, j12⟩, j13⟩, j14⟩, j15⟩, j16⟩, j17⟩, j18⟩, j19⟩, j20⟩ := hJ
  have j12' : ∀ p ∈ J.scope.names, p.2 ≠ .cell ∧ (p.2 = .free → fd.scope.names.lookup p.1 = some .cell ∧ J.scope.names.lookup p.1 = some .free) := fun p hp => by
    have := List.all_eq_true.mp j12 p hp
    simp only [Bool.and_eq_true, bne_iff_ne, ne_eq, Bool.or_eq_true, beq_iff_eq] at this
    exact ⟨this.1, fun q => this.2.resolve_left fun w => w q⟩
  have j14' : ∀ p ∈ ips, okName p = true ∧ J.scope.names.lookup p = some .local := fun p hp => by
    have := List.all_eq_true.mp j14 p hp
    simpa only [Bool.and_eq_true, beq_iff_eq] using this
  have np : ∀ {y d}, (ps.zip ds).lookup y = some d → y ≠ J.nm := fun {y d} e q => by
    have hm := List.of_mem_zip (mem_of_lookup e)
    subst q; simp [List.contains_iff_mem, hm.1] at j2
  refine enter_ok CO DA hsc K H x rv (hb vs s H rv.length) fun env s' hs kp fr F hcd hqu => ?_
  obtain ⟨h0, tk0, rfl⟩ := hs
  dsimp only at kp F
  have Km : Aok (k + m) (A.deeper env) := K.deeper
  have Kk : Aok k (A.deeper env) := Km.mono (by omega)
  have EV := ev_ok CO GO N
  generalize hX : (fun b => X b ∨ b = env.locals ∨ ∃ y, env.cells.lookup y = some b) = X1 at F
  simp only [d2i, Option.bind_eq_some_iff] at ev
  obtain ⟨cnd, h2, b, h3, ev⟩ := ev
  have kdn : env.kindOf J.nm = some .cell := by
    rcases F.st.e.kd J.nm with q | ⟨q, _⟩
    · rw [q]; exact j7
    · rw [j7] at q; cases q
  have hqual : qualnameIn env J.nm J.nm = fd.qualname ++ ".<locals>." ++ J.nm := by
    unfold qualnameIn
    rw [kdn, hqu]; rfl
  show wpAny _ _ (execs [.FunctionDef J.nm J.params J.I.body [] none [] J.scope none J.nm J.dp, .Return (some (.IfExp J.t (.Call (.Name J.nm J.fp) J.args [] J.cp) J.z J.xp)) J.rp] env) _ _ _
  refine wpAny_execs_cons (mkDef_ok (s := { s with heap := h0, toks := tk0 }) CO TO F hq (hcd.trans hcode) hqual hd0 hk0 (ha env) (fun p hp hk => .inl ((j12' p hp).2 hk).1) j5 j18 j19 j20 (fun p hp => (j12' p hp).1) fun f cdv ctv doc pm h3' tk3 F3 k3 fr3 na => ?_)
  dsimp only at k3 fr3 na F3
  have subn : (setA J.nm (.adr f) (ps.zip ds)).lookup J.nm = some (.adr f) := by rw [lookup_setA, if_pos rfl]
  have subs : ∀ y d, (ps.zip ds).lookup y = some d → (setA J.nm (.adr f) (ps.zip ds)).lookup y = some d := fun y d e => by rw [lookup_setA, if_neg (np e)]; exact e
  have FZ := F3.sub subs
  have CL3 : Clo C X1 h3' f (fnX J.nm (fd.qualname ++ ".<locals>." ++ J.nm) J.params J.I.body J.scope (clOf env J.scope.names []) .none .none doc pm none cdv ctv) J.I.body (keepFree J.scope.names (ps.zip ds)) [(J.nm, .ref f)] := by
    refine clo_of F3 na rfl (fun p hp hk => (j12' p hp).2 hk) (fun y d e => ?_) fun y v e => ?_
    · obtain ⟨a1, a2⟩ := lookup_keepFree e
      exact ⟨a1, subs y d a2⟩
    · rw [List.lookup_cons] at e
      by_cases w : y = J.nm
      · subst w
        simp only [beq_self_eq_true, Option.some.injEq] at e; subst e
        exact ⟨j11, f, rfl, subn⟩
      · rw [beq_eq_false_iff_ne.mpr w] at e; cases e
  have back : ∀ v h5 tk5, HOk C h5 → Kp C.Tb h3' h5 → Rp X1 h5 r v → Q v { s with heap := h5, toks := tk5 } := fun v h5 tk5 H5 k5 r5 => by
    refine h v h5 tk5 H5 (fun b o nb eb => ?_) (r5.av fun b _ _ q => by rw [← hX]; exact .inl q)
    have nY : ¬ Yf C fd.scope.names env b := by
      rintro (q | q | ⟨y, _, q⟩)
      · exact nb q
      · rw [fr b (.inl q)] at eb; cases eb
      · rw [fr b (.inr ⟨y, q⟩)] at eb; cases eb
    exact k5 b o nb (k3 b o nY (kp b o eb))
  refine wpAny_execs_cons (wpAny_Return_some (IfExp_ (EV.2 _ fd.scope.names env (ps.zip ds) J.t cnd b h2 h3 _ { s with heap := h3', toks := tk3 } _ _ Kk FZ.st fun h4 tk4 H4 k4 => ?_)))
  have F4 := FZ.kp H4 k4
  cases b with
  | false =>
    simp only [Bool.false_eq_true, if_false] at ev ⊢
    exact EV.1 _ fd.scope.names env _ _ _ ev _ { s with heap := h4, toks := tk4 } _ _ Kk F4.st fun v h5 tk5 H5 k5 r5 => back v h5 tk5 H5 (k4.trans k5) r5
  | true =>
    simp only [if_true, Option.bind_eq_some_iff] at ev ⊢
    obtain ⟨d1, h5, ev⟩ := ev
    have CL4 := CL3.kp k4 FZ.st.x.tb fun b o q e => fx_tb FZ.st.H q e
    have hnf : [(J.nm, Value.ref f)].lookup J.nm = some (.ref f) := by rw [List.lookup_cons]; simp
    obtain ⟨okf, frf, cf, hcf, hif⟩ := CL4.hv _ _ hnf
    obtain ⟨o, ho, hd⟩ := CL4.na.ob
    have nmc : env.cells.lookup J.nm = some cf := clOf_sound J.scope.names [] (fun p hp hk => F.st.e.cl p.1 (.inl ((j12' p hp).2 hk).1)) (fun _ _ q => by cases q) _ _ hcf
    refine callF_ok (s := { s with heap := h4, toks := tk4 }) Kk (EV.1 X1 fd.scope.names env _) F4.st (fun _ _ _ => trivial) rfl h5 (fun Q' hq => cellName_ok (s := { s with heap := h4, toks := tk4 }) F4.st j7 okf nmc hif hq) ho hd fun vs1 h5' tk5 H5 k5 r5 => ?_
    dsimp only at k5
    have F5 := F4.kp H5 k5
    have CL5 := CL4.kp k5 F4.st.x.tb fun b o q e => fx_tb F4.st.H q e
    exact inner2_ok (sc := J.scope.names) (ps := ips) (φc := keepFree J.scope.names (ps.zip ds)) (I := J.I) CO GO j13 j14' rfl (by rw [j8]; exact hnf) (fun vs hl => hib _ _ _ _ _ vs hl) ⟨j15, j16⟩ m d1 r ev (by rw [evs_len h5, j17]) _ _ { s with heap := h5', toks := tk5 } _ _ vs1 Km H5 F5.st.x CL5 r5
      fun v h6 tk6 H6 k6 r6 => back v h6 tk6 H6 ((k4.trans k5).trans k6) r6
end
end Mine
namespace Mine
open PySem PySem.Spec PySem.Calls PyProof.Rows PySem.W
set_option linter.unusedVariables false
set_option maxRecDepth 100000

theorem RpL.drop {X : Addr → Prop} {h : Heap} : ∀ {l : List D} {vs : List Value} (n : Nat), RpL X h l vs → RpL X h (l.drop n) (vs.drop n)
  | l, vs, 0, x => x
  | [], vs, n + 1, x => by simp only [RpL] at x; subst x; simp [RpL]
  | d :: l, vs, n + 1, x => by
    simp only [RpL] at x
    obtain ⟨v, r, rfl, a, b⟩ := x
    simpa using RpL.drop n b

theorem methEq2 {y name : Str} {py apos pos : Pos} {y1 y2 : Str} {p1 p2 : Pos} {env : Env} (hq : (apos.endLine == pos.line) = true) : eval (.Call (.Attribute (.Name y py) name apos) [.Name y1 p1, .Name y2 p2] [] pos) env = (do
      let ov ← eval (.Name y py) env
      standAt apos.atName
      let (f, first) ← holding [ov] (getMethod ov name (do return (← importBound (.Name y py) env).getD true))
      callWith pos f first (backTo pos (starEach [.Name y1 p1, .Name y2 p2] env)) []) := by
  rw [arm_eval_Call]
  have hf : methodCallForm (([.Name y1 p1, .Name y2 p2] : List Expr).length + ([] : List Keyword).length) (backTo pos (starEach [.Name y1 p1, .Name y2 p2] env)) (backToKw pos (keywordEach [] env)) = true := rfl
  simp only [methodCall, hf, methodCallPos, calleeOf, hq, Bool.or_true, if_true, pure_bind]
  rfl
theorem methEq1 {y name : Str} {py apos pos : Pos} {y1 : Str} {p1 : Pos} {env : Env} (hq : (apos.endLine == pos.line) = true) : eval (.Call (.Attribute (.Name y py) name apos) [.Name y1 p1] [] pos) env = (do
      let ov ← eval (.Name y py) env
      standAt apos.atName
      let (f, first) ← holding [ov] (getMethod ov name (do return (← importBound (.Name y py) env).getD true))
      callWith pos f first (backTo pos (starEach [.Name y1 p1] env)) []) := by
  rw [arm_eval_Call]
  have hf : methodCallForm (([.Name y1 p1] : List Expr).length + ([] : List Keyword).length) (backTo pos (starEach [.Name y1 p1] env)) (backToKw pos (keywordEach [] env)) = true := rfl
  simp only [methodCall, hf, methodCallPos, calleeOf, hq, Bool.or_true, if_true, pure_bind]
  rfl

section
variable {C : Cfg} {k : Nat} {sc : Sc} {env : Env} {φ : Ph} {A : Around} {X : Addr → Prop} {E : Value → Shared → Prop} {s : Shared} {h h' : Heap} {ms : Ms}

theorem nodict_list {a : Addr} {vs : Array Value} {n : Nat} (g : s.heap.get? a = some (lstO vs n)) : s.heap.NoDictAt (.ref a) := ⟨_, g, rfl⟩

theorem insert_ok {a : Addr} {l : List D} {p : Int} {t : Tok} {d : D} {v : Value} {Q : Value → Shared → Prop} (H : HOk C s.heap) (hb : C.B.get? a = none) (xa : X a) (hl : HoldsL X s.heap a l) (r : Rp X s.heap d v) (h0 : 0 ≤ p) (h1 : p ≤ l.length) (h2 : l.length ≤ 1000)
    (h : ∀ h', HOk C h' → Kp (fun b => b = a) s.heap h' → HoldsL X h' a (l.take p.toNat ++ d :: l.drop p.toNat) → Q .none { s with heap := h' }) : wpAny (model C.prog C.w) A (call (.builtin "list.insert") [.ref a, .int p t, v]) Q E s := by
  obtain ⟨vs, n, g, rl⟩ := hl
  have hs := rl.length
  simp only [Array.length_toList] at hs
  refine call_meets PySem.F.slot_list_insert ⟨_, g, rfl⟩ PySem.F.entry_list_insert (PySem.F.args_list_insert_3 _ _ _) (AutoListH.list_insert_list_int_val_1 a vs n p t v (by simp [Builtin.List.listFitsIndex]; omega) (by rw [sizeLine_eq]; omega)) ⟨g, ?_⟩
  have sb := Heap.SameBut.update s.heap a (Obj.mapSeq fun xs => have k := if p < 0 then (p + ((xs.size : Nat) : Int)).toNat else min p.toNat xs.size; (xs.extract 0 k).push v ++ xs.extract k)
  have g' := Heap.get?_update_self (Obj.mapSeq fun xs => have k := if p < 0 then (p + ((xs.size : Nat) : Int)).toNat else min p.toNat xs.size; (xs.extract 0 k).push v ++ xs.extract k) g (by rfl)
  have kk : Kp (fun b => b = a) s.heap _ := .same sb rfl
  refine h _ (H.same sb hb (nja_list g)) kk ⟨_, _, g', ?_⟩
  have e : (if p < 0 then (p + ((vs.size : Nat) : Int)).toNat else min p.toNat vs.size) = p.toNat := by rw [if_neg (by omega)]; omega
  simp only [e]
  have r' : RpL X s.heap (l.take p.toNat ++ d :: l.drop p.toNat) (vs.toList.take p.toNat ++ v :: vs.toList.drop p.toNat) := (rl.take _).append (by simp only [RpL]; exact ⟨v, _, rfl, r, rl.drop _⟩)
  have := r'.kp kk (fun b q => q ▸ xa)
  simpa [Array.toList_extract, List.extract_eq_drop_take, List.take_of_length_le] using this

theorem append_ok {a : Addr} {l : List D} {d : D} {v : Value} {Q : Value → Shared → Prop} (H : HOk C s.heap) (hb : C.B.get? a = none) (xa : X a) (hl : HoldsL X s.heap a l) (r : Rp X s.heap d v) (h2 : l.length ≤ 1000)
    (h : ∀ h', HOk C h' → Kp (fun b => b = a) s.heap h' → HoldsL X h' a (l ++ [d]) → Q .none { s with heap := h' }) : wpAny (model C.prog C.w) A (call (.builtin "list.append") [.ref a, v]) Q E s := by
  obtain ⟨vs, n, g, rl⟩ := hl
  have hs := rl.length
  simp only [Array.length_toList] at hs
  refine wpAny_list_append_plain ⟨n, g⟩ (fun h' ⟨n', g'⟩ sb => ?_) (by rw [sizeLine_eq]; omega)
  have kk : Kp (fun b => b = a) s.heap h' := .same sb rfl
  refine h h' (H.same sb hb (nja_list g)) kk ⟨_, n', g', ?_⟩
  have := (rl.append (RpL.one r)).kp kk (fun b q => q ▸ xa)
  simpa using this
end
end Mine
namespace Mine
open PySem PySem.Spec PySem.Calls PyProof.Rows PySem.W
set_option linter.unusedVariables false
set_option maxRecDepth 100000

/-- a call that changes one list: fv on the list and ds turns what the list holds from l to l' -/
def ProcOk (C : Cfg) (k : Nat) (fv : Value) (ds : List D) (l l' : List D) : Prop :=
  ∀ (A : Around) (X : Addr → Prop) (a : Addr) (vs : List Value) (s : Shared) (Q E : Value → Shared → Prop), Aok k A → HOk C s.heap → XOk C X s.heap → X a → C.B.get? a = none → HoldsL X s.heap a l → RpL X s.heap ds vs →
    (∀ h' tk, HOk C h' → Kp (fun b => C.Tb b ∨ b = a) s.heap h' → HoldsL X h' a l' → Q .none { s with heap := h', toks := tk }) → wpAny (model C.prog C.w) A (call fv (.ref a :: vs)) Q E s

structure Ins where
  t : Expr
  lx : Str
  lxp : Pos
  e : Expr
  ap : Pos
  o : List Stmt
  ip : Pos
  ax : Str
  axp : Pos
  atp : Pos
  lxp2 : Pos
  xx : Str
  xxp : Pos
  cp : Pos
  ep : Pos
def Ins.body (J : Ins) : List Stmt :=
  [.If J.t [.Assign [.Name J.lx J.lxp] J.e J.ap] J.o J.ip, .Expr (.Call (.Attribute (.Name J.ax J.axp) "insert" J.atp) [.Name J.lx J.lxp2, .Name J.xx J.xxp] [] J.cp) J.ep]

def ins (G : Fn) (N : Nat) (sc : Sc) (pt : List Str) (dt : List D) (J : Ins) (l : List D) : Option (List D) :=
  (ev G N sc ((J.ax, .lst l) :: pt.zip dt) J.t).bind fun c => (truthD c).bind fun b => if b then
      (ev G N sc ((J.ax, .lst l) :: pt.zip dt) J.e).bind fun p => ((pt.zip dt).lookup J.xx).bind fun x => match p with
        | .int p => if decide (0 ≤ p) && decide (p ≤ l.length) && decide (l.length ≤ 1000) then some (l.take p.toNat ++ x :: l.drop p.toNat) else none
        | _ => none
    else none

def Ins.ok (J : Ins) (sc : Sc) (pt : List Str) : Bool :=
  !pt.contains J.ax && kindSt sc J.lx && !(J.lx == J.ax) && !(J.xx == J.lx) && !(J.xx == J.ax) && J.atp.endLine == J.cp.line && sc.all (fun p => p.2 != .cell)

section
variable {C : Cfg} {k : Nat} {G : Fn} {N m : Nat}
theorem insort_ok {a : Addr} {fd : FuncData} {J : Ins} {pt : List Str} {ds ex : List D} {exv : List Value} {l l' : List D} (CO : CfgOk C) (GO : GOk C k G) (DA : DefAt C a fd J.body) (hsc : defSc fd.scope.names (J.ax :: pt) = true) (hJ : J.ok fd.scope.names pt = true)
    (hex : ∀ X h, RpL X h ex exv) (hb : ∀ (vs : List Value) (s : Shared), HOk C s.heap → vs.length = ds.length + 1 → BindsTo s fd ⟨vs, []⟩ ((J.ax :: pt).zip (vs ++ exv)))
    (hnl : ∀ elt gens scope pos, J.e ≠ .ListComp elt gens scope pos) (ev : ins G N fd.scope.names pt (ds ++ ex) J l = some l') : ProcOk C (k + 1) (.ref a) ds l l' := by
  intro A X L vs s Q E K H x xL hbL hl rv h
  simp only [Ins.ok, Bool.and_eq_true, Bool.not_eq_true', beq_iff_eq] at hJ
  obtain ⟨⟨⟨⟨⟨⟨j1, j2⟩, j3⟩, j4⟩, j5⟩, j6⟩, j7⟩ := hJ
  obtain ⟨vsL, nL, gL, rL⟩ := hl
  have nTb : ¬ C.Tb L := fun t => by
    obtain ⟨q, hq, rfl⟩ := t
    obtain ⟨ps', e2, _⟩ := H.tabs q hq
    rw [gL] at e2; cases e2
  have np : ∀ {y d}, (pt.zip (ds ++ ex)).lookup y = some d → y ≠ J.ax := fun {y d} e q => by
    have hm := List.of_mem_zip (mem_of_lookup e)
    subst q; simp [List.contains_iff_mem, hm.1] at j1
  refine enter_ok (X := X) (ds := .adr L :: (ds ++ ex)) (vs' := (.ref L :: vs) ++ exv) CO DA hsc K H x ?_ (hb _ s H (by simp [rv.length])) fun env s' hs kp fr F hcd hqu => ?_
  · simp only [List.cons_append, RpL]
    exact ⟨_, _, rfl, by simp only [Rp], rv.append (hex X _)⟩
  obtain ⟨h0, tk0, rfl⟩ := hs
  dsimp only at kp F
  have Kk : Aok k (A.deeper env) := K.deeper
  have EV := ev_ok CO GO N
  have nlL : L ≠ env.locals := fun q => by have := fr L (.inl q); rw [gL] at this; cases this
  have ncL : ∀ y c, env.cells.lookup y = some c → c ≠ L := fun y c hc q => by have := fr L (.inr ⟨y, q ▸ hc⟩); rw [gL] at this; cases this
  have sc0 : ∀ y, fd.scope.names.lookup y ≠ some .cell := fun y q => by
    have := List.all_eq_true.mp j7 _ (mem_lookup q)
    simp at this
  -- the frame, with the list apart
  have gL0 := kp _ _ gL
  have M0 : MFr C (fun b => (X b ∧ b ≠ L) ∨ b = env.locals ∨ ∃ y, env.cells.lookup y = some b) fd.scope.names env ((J.ax :: pt).zip (.adr L :: (ds ++ ex))) [(J.ax, L, l)] h0 := by
    have eX : Xm (fun b => (X b ∧ b ≠ L) ∨ b = env.locals ∨ ∃ y, env.cells.lookup y = some b) [(J.ax, L, l)] = fun b => X b ∨ b = env.locals ∨ ∃ y, env.cells.lookup y = some b := by
      funext b
      refine propext ⟨fun q => ?_, fun q => ?_⟩
      · rcases q with (q | q) | ⟨p, hp, e⟩
        · exact .inl q.1
        · exact .inr q
        · rw [List.mem_singleton] at hp; subst hp; exact .inl (e ▸ xL)
      · by_cases w : b = L
        · exact .inr ⟨_, List.mem_singleton.mpr rfl, w.symm⟩
        · exact .inl (q.imp (fun q => ⟨q, w⟩) id)
    have avL : ∀ b o, s.heap.get? b = some o → (X b ∨ b = env.locals ∨ ∃ y, env.cells.lookup y = some b) → X b := fun b o e q => q.elim id fun q => by rw [fr b q] at e; cases e
    refine ⟨by rw [eX]; exact F, fun b q => .inl ⟨x.tb b q, fun w => nTb (w ▸ q)⟩, .inr (.inl rfl), fun y c hc => .inr (.inr ⟨y, hc⟩), fun q hq => ?_, by simp⟩
    rw [List.mem_singleton] at hq; subst hq
    refine ⟨⟨vsL, nL, gL0, ?_⟩, hbL, ?_, by rw [List.zip_cons_cons, List.lookup_cons]; simp⟩
    · rw [eX]
      exact (rL.av avL).kp (Y := fun _ => False) (fun b o _ e => kp b o e) fun _ q => q.elim
    · rintro (q | q | ⟨y, q⟩)
      · exact q.2 rfl
      · exact nlL q
      · exact ncL y _ q rfl
  generalize hX : (fun b => (X b ∧ b ≠ L) ∨ b = env.locals ∨ ∃ y, env.cells.lookup y = some b) = X1 at M0
  have vw : ∀ y d, ((J.ax, D.lst l) :: pt.zip (ds ++ ex)).lookup y = some d → (view [(J.ax, L, l)] ((J.ax :: pt).zip (.adr L :: (ds ++ ex)))).lookup y = some d := fun y d e => by
    rw [view, List.map_cons, List.map_nil, List.cons_append, List.nil_append, List.zip_cons_cons]
    rw [List.lookup_cons] at e ⊢
    by_cases w : y = J.ax
    · subst w; simpa using e
    · rw [beq_eq_false_iff_ne.mpr w] at e ⊢
      rw [List.lookup_cons, beq_eq_false_iff_ne.mpr w]; exact e
  simp only [ins, Option.bind_eq_some_iff] at ev
  obtain ⟨cnd, h2, b, h3, ev⟩ := ev
  cases b with
  | false => simp at ev
  | true =>
    simp only [if_true, Option.bind_eq_some_iff] at ev
    obtain ⟨dp, h4, dx, h5, ev⟩ := ev
    cases dp <;> try (simp only [reduceCtorEq] at ev)
    rename_i p
    split at ev
    · rename_i hp
      cases ev
      simp only [Bool.and_eq_true, decide_eq_true_eq] at hp
      show wpAny _ _ (execs [.If J.t [.Assign [.Name J.lx J.lxp] J.e J.ap] J.o J.ip, .Expr (.Call (.Attribute (.Name J.ax J.axp) "insert" J.atp) [.Name J.lx J.lxp2, .Name J.xx J.xxp] [] J.cp) J.ep] env) _ _ _
      refine wpAny_execs_cons (wpAny_If (EV.2 _ _ env _ J.t cnd true h2 h3 _ { s with heap := h0, toks := tk0 } _ _ Kk (M0.seen.sub vw).st fun h1 tk1 H1 k1 => ?_))
      have M1 := M0.kp H1 k1
      simp only [if_true]
      refine wpAny_execs_cons (wpAny_Assign_Name (EV.1 _ _ env _ J.e _ h4 _ { s with heap := h1, toks := tk1 } _ _ Kk (M1.seen.sub vw).st fun v h2 tk2 H2 k2 r2 => ?_) (swaps_no h4 hnl))
      obtain ⟨t, rfl⟩ := r2.int_inv
      have M2 := M1.kp H2 k2
      refine MFr.stor (s := { s with heap := h2, toks := tk2 }) (d := .int p) M2 j2 (fun q hq w => ?_) (by simp only [Rp]; exact ⟨t, rfl⟩) fun h3 tk3 M3 k3 => ?_
      · rw [List.mem_singleton] at hq; subst hq
        rw [show J.lx = J.ax from w.symm] at j3; simp at j3
      have hint : interactive env = false := by unfold interactive; rw [F.st.e.fn]; rfl
      dsimp only at k3 k1 k2
      have hxx : J.xx ≠ J.lx := fun q => by rw [q] at j4; simp at j4
      have hxa : J.xx ≠ J.ax := fun q => by rw [q] at j5; simp at j5
      have hla : J.lx ≠ J.ax := fun q => by rw [q] at j3; simp at j3
      -- the rest of the block
      refine wpAny_execs_nil (wpAny_execs_cons (wpAny_Expr_any ?_ hint rfl))
      refine MethodCall_ (he := methEq2 (by simpa using j6)) (Name_ok (s := { s with heap := h3, toks := tk3 }) (d := .adr L) M3.fr.st (by rw [lookup_setA, if_neg (Ne.symm hla), List.zip_cons_cons, List.lookup_cons]; simp) fun v4 h4 tk4 H4 k4 r4 => ?_)
      simp only [Rp] at r4; subst r4
      have M4 := M3.kp H4 k4
      obtain ⟨⟨ws, nn, gg, _⟩, _⟩ := M4.ls _ (List.mem_singleton.mpr rfl)
      refine getMethod_list_of PySem.F.slot_list_insert PySem.F.type_list_insert ⟨_, gg, rfl, nn, rfl⟩ (nodict_list (s := { s with heap := h4, toks := tk4 }) gg) ?_
      refine callWith_method1 ?_
      have look : (setA J.lx (.int p) ((J.ax :: pt).zip (.adr L :: (ds ++ ex)))).lookup J.xx = some dx := by
        rw [lookup_setA, if_neg hxx, List.zip_cons_cons, List.lookup_cons, beq_eq_false_iff_ne.mpr hxa]; exact h5
      have lookl : (setA J.lx (.int p) ((J.ax :: pt).zip (.adr L :: (ds ++ ex)))).lookup J.lx = some (.int p) := by rw [lookup_setA, if_pos rfl]
      refine evs_ok (f := Mine.ev G (N + 1) fd.scope.names (setA J.lx (.int p) ((J.ax :: pt).zip (.adr L :: (ds ++ ex))))) ((ev_ok CO GO (N + 1)).1 _ _ _ _) Kk [.Name J.lx J.lxp2, .Name J.xx J.xxp] [.int p, dx] (by simp only [evs, Mine.ev, look, lookl, Option.bind_some]) { s with heap := h4, toks := tk4 } _ _ M4.fr.st fun vs5 h5' tk5 H5 k5 r5 => ?_
      obtain ⟨v5, u5, rfl, r51, r52⟩ := two_args r5
      obtain ⟨t5, rfl⟩ := r51.int_inv
      have M5 := M4.kp H5 k5
      refine insert_ok (s := { s with heap := h5', toks := tk5 }) (X := Xm X1 [(J.ax, L, l)]) H5 hbL (.inr ⟨_, List.mem_singleton.mpr rfl, rfl⟩) (M5.ls _ (List.mem_singleton.mpr rfl)).1 r52 hp.1.1 hp.1.2 hp.2 fun h6 H6 k6 hl6 => ?_
      refine wpAny_execs_nil ?_
      refine h h6 tk5 H6 (fun b o nb eb => ?_) ?_
      · have nY : ¬ Yf C fd.scope.names env b := by
          rintro (q | q | ⟨y, q, _⟩)
          · exact nb (.inl q)
          · rw [fr b (.inl q)] at eb; cases eb
          · exact sc0 y q
        have nT : ¬ C.Tb b := fun q => nb (.inl q)
        exact k6 b o (fun q => nb (.inr q)) (k5 b o nT (k4 b o nT (k3 b o nY (k2 b o nT (k1 b o nT (kp b o eb))))))
      · obtain ⟨ws, n6, g6, r6⟩ := hl6
        exact ⟨ws, n6, g6, r6.av fun b o _ q => by
          by_cases w : b = L
          · exact .inr ⟨_, List.mem_singleton.mpr rfl, w.symm⟩
          · exact .inl (by rw [← hX]; exact .inl ⟨q, w⟩)⟩
    · cases ev
end
end Mine
namespace Mine
open PySem PySem.Spec PySem.Calls PyProof.Rows PySem.W
set_option linter.unusedVariables false
set_option maxRecDepth 100000

section
variable {C : Cfg} {k : Nat} {sc : Sc} {env : Env} {φ : Ph} {A : Around} {X : Addr → Prop} {E : Value → Shared → Prop} {s : Shared} {h h' : Heap} {ms : Ms}

theorem callB1_ok {f : Str} {id : String} {e : Expr} {p pos : Pos} {Q : Value → Shared → Prop} (CO : CfgOk C) (S : St C X sc env φ s.heap) (hdb : (f == ("__debug__" : Str)) = false) (hsc : sc.lookup f = some .globalImplicit) (gv : Gval C f (.builtin id))
    (hs : starEach [e] env = (false, eval e env) :: starEach [] env) (h : wpAny (model C.prog C.w) A (eval e env) (fun v s₁ => wpAny (model C.prog C.w) A (call (.builtin id) [v]) Q E s₁) E s) : wpAny (model C.prog C.w) A (eval (.Call (.Name f p) [e] [] pos) env) Q E s := by
  show wpAny (model C.prog C.w) A (do callWith pos (← eval (.Name f p) env) [] (backTo pos (starEach [e] env)) []) Q E s
  have hk : env.kindOf f = some .globalImplicit := by
    rcases S.e.kd f with q | ⟨q, _⟩
    · rw [q]; exact hsc
    · rw [hsc] at q; cases q
  refine wpAny_bind (Name_function_global S.e.fn hk (gval_load CO S gv ?_) hdb)
  exact callWith_builtin1 (spliced_more (wpAny_mono h (fun v s₁ h₁ => spliced_none h₁) fun _ _ q => q) hs) hs rfl

/-- a call that changes a list -/
theorem callP_ok {f : Str} {fv : Value} {args : List Expr} {p pos : Pos} {L : Addr} {ds : List D} {ff : Expr → Option D} {Q : Value → Shared → Prop} (CO : CfgOk C) (K : Aok k A) (F : FOk C k X sc env φ ff) (S : St C X sc env φ s.heap)
    (hdb : (f == ("__debug__" : Str)) = false) (hsc : sc.lookup f = some .globalImplicit) (gv : Gval C f fv) (kp : Keepable C fv) (ea : evs ff args = some (.adr L :: ds))
    (h : ∀ vs h' tk, HOk C h' → Kp C.Tb s.heap h' → RpL X h' ds vs → wpAny (model C.prog C.w) A (call fv (.ref L :: vs)) Q E { s with heap := h', toks := tk }) : wpAny (model C.prog C.w) A (eval (.Call (.Name f p) args [] pos) env) Q E s := by
  show wpAny (model C.prog C.w) A (do callWith pos (← eval (.Name f p) env) [] (backTo pos (starEach args env)) []) Q E s
  have hk : env.kindOf f = some .globalImplicit := by
    rcases S.e.kd f with q | ⟨q, _⟩
    · rw [q]; exact hsc
    · rw [hsc] at q; cases q
  refine wpAny_bind (Name_function_global S.e.fn hk (gval_load CO S gv ?_) hdb)
  refine callWith_of (P := HOk C) (by rw [starred_none ea]; rfl) kp ?_
  have body : wpAny (model C.prog C.w) A (spliced (backTo pos (starEach args env))) (fun vs s₁ => HOk C s₁.heap ∧ wpAny (model C.prog C.w) A (call fv ([] ++ vs) []) Q E s₁) E s := by
    refine evs_ok F K args _ ea s _ E S fun vs h' tk H k1 r => ⟨H, ?_⟩
    simp only [RpL, Rp] at r
    obtain ⟨v, vs', rfl, rfl, r'⟩ := r
    exact h vs' h' tk H k1 r'
  cases args with
  | nil => simp [evs] at ea
  | cons e es =>
    have hs : starEach (e :: es) env = (false, eval e env) :: starEach es env := by
      cases e <;> first
        | (simp only [evs] at ea; cases ea; done)
        | rfl
    rw [hs] at body ⊢
    exact evalArgs_plain body

/-- x, y = e, [] : the second list stands apart from then on -/
theorem twoStores_ok {x y : Str} {px py pt pv pl pos : Pos} {kt kv : Nat} {e : Expr} {d : D} {G : Fn} {N : Nat} {Q : Flow → Shared → Prop} (CO : CfgOk C) (GO : GOk C k G) (K : Aok k A) (F : FrOk C X sc env [] s.heap) (he : ev G N sc [] e = some d) (hx : kindSt sc x = true) (hy : kindSt sc y = true) (hxy : x ≠ y)
    (hs : starEach [e, .List [] pl] env = (false, eval e env) :: starEach [.List [] pl] env)
    (hw0 : swapsWithSole [.Tuple [.Name x px, .Name y py] kt pt] (.Tuple [e, .List [] pl] kv pv) pos.line env = pure false)
    (hw : swappedStores [.Tuple [.Name x px, .Name y py] kt pt] (.Tuple [e, .List [] pl] kv pv) env = pure (some [x, y]))
    (h : ∀ L h' tk, MFr C X sc env (setA x d (setA y (.adr L) [])) [(y, L, [])] h' → Kp (Yf C sc env) s.heap h' → Q .next { s with heap := h', toks := tk }) :
    wpAny (model C.prog C.w) A (exec (.Assign [.Tuple [.Name x px, .Name y py] kt pt] (.Tuple [e, .List [] pl] kv pv) pos) env) Q E s := by
  have EV := ev_ok CO GO N
  refine Assign_Tuple_swapped (names := [x, y]) (Tuple_ ?_) hw0 hw
  refine spliced_more (EV.1 X sc env [] e d he A s _ E K F.st fun v1 h1 tk1 H1 k1 r1 => ?_) hs
  refine spliced_more (List_ (spliced_none (wpAny_newObj_type ?_ (by show (#[] : Array Value).size ≤ sizeLine; rw [sizeLine_eq]; simp)))) rfl
  refine spliced_none (wpAny_newObj_type ?_ (by show _ ≤ sizeLine; rw [sizeLine_eq]; simp))
  have F1 := F.kp H1 k1
  generalize hL : h1.objs.size = L
  have fr : h1.get? L = none := hL ▸ get_size h1
  dsimp only
  generalize h2d : h1.push (lstO #[] 0) = h2
  have k2 : ∀ b o, h1.get? b = some o → h2.get? b = some o := fun b o e => h2d ▸ Heap.get?_push_of_some _ e
  have g2 : h2.get? L = some (lstO #[] 0) := by rw [← h2d, ← hL]; exact Heap.get?_push_size _ rfl
  have g3 : (h2.push (tupO #[v1, .ref L] 0)).get? h2.objs.size = some (tupO #[v1, .ref L] 0) := Heap.get?_push_size _ rfl
  refine unpackItems_tuple K.handled (items := #[v1, .ref L]) ⟨_, g3, rfl, 0, rfl⟩ fun h4 hx4 => ?_
  have k4 : ∀ b o, h2.get? b = some o → h4.get? b = some o := fun b o e => hx4 b o (fun q => by
    have e' := Heap.lt_size (Heap.get?_push_of_some (tupO #[v1, .ref L] 0) e)
    rw [q] at e'
    exact Nat.lt_irrefl _ e') (Heap.get?_push_of_some _ e)
  have k14 : ∀ b o, h1.get? b = some o → h4.get? b = some o := fun b o e => k4 b o (k2 b o e)
  have H4 : HOk C h4 := H1.keeps k14
  have F4 : FrOk C (fun b => X b ∨ b = L) sc env [] h4 := F1.grow fr k14 H4 ⟨_, k4 _ _ g2⟩
  have av : ∀ b o, h1.get? b = some o → (X b ∨ b = L) → X b := fun b o e q => q.elim id fun q => by subst q; rw [fr] at e; cases e
  have r4 : Rp (fun b => X b ∨ b = L) h4 d v1 := (r1.av (X' := fun b => X b ∨ b = L) av).kp (Y := fun _ => False) (fun b o _ e => k14 b o e) fun _ q => q.elim
  show wpAny (model C.prog C.w) A (do holding [v1] (bindName env y (.ref L)); assignInOrder [fun n => bindName env x n] [v1]) _ E _
  refine wpAny_bind (wpAny_holding (bindName_ (store_ok (d := .adr L) (s := { s with heap := h4, toks := tk1 }) F4 hy (by simp only [Rp]) fun h5 tk5 F5 k5 => ?_)))
  show wpAny (model C.prog C.w) A (do holding [] (bindName env x v1); assignInOrder [] []) _ E _
  have k5' : Kp (Yf C sc env) h4 h5 := k5.mono fun b q => .inr q
  refine wpAny_bind (wpAny_holding (bindName_ (store_ok (d := d) (s := { s with heap := h5, toks := tk5 }) F5 hx (r4.kp k5' (Yf_X F4)) fun h6 tk6 F6 k6 => ?_)))
  have k6' : Kp (Yf C sc env) h5 h6 := k6.mono fun b q => .inr q
  refine wpAny_pure ?_
  have nYL : ¬ Yf C sc env L := fun q => by obtain ⟨o, e⟩ := F1.st.x.ex _ (Yf_X F1 _ q); rw [fr] at e; cases e
  have nX : ¬ X L := fun q => by obtain ⟨o, e⟩ := F1.st.x.ex _ q; rw [fr] at e; cases e
  have eX : Xm X [(y, L, [])] = fun b => X b ∨ b = L := funext fun b => propext (or_congr_right ⟨fun ⟨q, hq, e⟩ => by
      rw [List.mem_singleton] at hq; subst hq; exact e.symm, fun e => ⟨_, List.mem_singleton.mpr rfl, e.symm⟩⟩)
  refine h L h6 tk6 ⟨by rw [eX]; exact F6, F.st.x.tb, F.st.e.xl, F.st.e.xc, fun q hq => ?_, by simp⟩ (((k1.yf.trans (Kp.of k14)).trans k5').trans k6')
  rw [List.mem_singleton] at hq; subst hq
  exact ⟨⟨#[], 0, k6' _ _ nYL (k5' _ _ nYL (k4 _ _ g2)), by simp [RpL]⟩, H1.baseNone fr, nX, by rw [lookup_setA, if_neg (Ne.symm hxy), lookup_setA, if_pos rfl]⟩
end
end Mine
namespace Mine
open PySem PySem.Spec PySem.Calls PyProof.Rows PySem.W
set_option linter.unusedVariables false
set_option maxRecDepth 100000

/-- a def of the text, by its name -/
def fdef (x : Str) : List Stmt → Stmt
  | [] => .Return none default
  | .FunctionDef n a b d r t sc ts bn p :: rest => if n == x then .FunctionDef n a b d r t sc ts bn p else fdef x rest
  | _ :: rest => fdef x rest
def sBody : Stmt → List Stmt
  | .FunctionDef _ _ b .. => b
  | _ => []
def sNames : Stmt → Sc
  | .FunctionDef _ _ _ _ _ _ sc .. => sc.names
  | _ => []
def mkIn1 : List Stmt → Option In1
  | [.If t [.Assign [.Subscript (.Name lx lxp) li sp] (.Name xx xp) ap, .Return none rp] [] ip, s1, s2, s3, s4, .Expr (.Call (.Name fx f1p) a1 [] c1p) e1p, .Expr (.Call (.Name _ f2p) a2 [] c2p) e2p] =>
    some { t, ip, lx, lxp, li, sp, xx, xp, ap, rp, pre := [s1, s2, s3, s4], fx, f1p, a1, c1p, e1p, f2p, a2, c2p, e2p }
  | _ => none
def mkIn0 : List Stmt → Option In0
  | [.Assign [.Name dx dxp] e0 p0, .FunctionDef nm params b [] none [] scope none _ dp, .If t [.Expr (.Call (.Name _ fp) args [] cp) ep] [] ip, .Return (some (.Name _ rp1)) rp2] =>
    (mkIn1 b).map fun I => { dx, dxp, e0, p0, nm, params, I, scope, dp, t, fp, args, cp, ep, ip, rp1, rp2 }
  | _ => none
def mkJn1 : List Stmt → Option Jn1
  | [.If t [.Return (some rt) rtp] [] ip, s1, s2, .Return (some (.BinOp (.BinOp (.Call (.Name fx f1p) a1 [] c1p) o1 sh b1p) o2 (.Call (.Name _ f2p) a2 [] c2p) b2p)) rp] =>
    some { t, ip, rt, rtp, pre := [s1, s2], fx, f1p, a1, c1p, o1, sh, b1p, o2, f2p, a2, c2p, b2p, rp }
  | _ => none
def mkJn0 : List Stmt → Option Jn0
  | [.FunctionDef nm params b [] none [] scope none _ dp, .Return (some (.IfExp t (.Call (.Name _ fp) args [] cp) z xp)) rp] =>
    (mkJn1 b).map fun I => { nm, params, I, scope, dp, t, fp, args, cp, z, xp, rp }
  | _ => none
def mkIns : List Stmt → Option Ins
  | [.If t [.Assign [.Name lx lxp] e ap] o ip, .Expr (.Call (.Attribute (.Name ax axp) _ atp) [.Name _ lxp2, .Name xx xxp] [] cp) ep] =>
    some { t, lx, lxp, e, ap, o, ip, ax, axp, atp, lxp2, xx, xxp, cp, ep }
  | _ => none

def addG (x : Str) (g : List D → Option D) (G : Fn) : Fn := fun f ds => if f == x then g ds else G f ds

section
variable {C : Cfg} {k k' : Nat} {G : Fn}
theorem CallOk.mono {fv : Value} {ds : List D} {r : D} (x : CallOk C k fv ds r) (h : k ≤ k') : CallOk C k' fv ds r := fun A X vs s Q E K => x A X vs s Q E (K.mono h)
theorem ProcOk.mono {fv : Value} {ds l l' : List D} (x : ProcOk C k fv ds l l') (h : k ≤ k') : ProcOk C k' fv ds l l' := fun A X a vs s Q E K => x A X a vs s Q E (K.mono h)
theorem GOk.mono (x : GOk C k G) (h : k ≤ k') : GOk C k' G := fun f ds r e => let ⟨a, fv, b, c, d⟩ := x f ds r e; ⟨a, fv, b, c, d.mono h⟩
theorem GOk.add {x : Str} {g : List D → Option D} {fv : Value} (y : GOk C k G) (hx : (x == ("__debug__" : Str)) = false) (gv : Gval C x fv) (kp : Keepable C fv) (hg : ∀ ds r, g ds = some r → CallOk C k fv ds r) : GOk C k (addG x g G) := fun f ds r e => by
  unfold addG at e
  split at e
  · rename_i q
    rw [eq_of_beq q]
    exact ⟨hx, fv, gv, kp, hg ds r e⟩
  · exact y f ds r e
theorem GOk.none : GOk C k (fun _ _ => .none) := fun f ds r e => by cases e
end

def gLen : List D → Option D
  | [.lst l] => if decide (l.length ≤ 1000) then some (.int l.length) else none
  | _ => none
def gRange : List D → Option D
  | [.int n] => if small n then some (.rng 0 n.toNat) else none
  | [.int a, .int b] => if small b then some (.rng a (b - a).toNat) else none
  | _ => none
def gSorted : List D → Option D
  | [.lst l] => (intsOf l).bind fun ns => if decide (ns.length < 64) then some (.lst ((sortZ ns).map .int)) else none
  | _ => none
def Gb : Fn := addG "len" gLen (addG "range" gRange (addG "sorted" gSorted fun _ _ => none))

theorem gLen_ok {C : Cfg} {k : Nat} (ds : List D) (r : D) (e : gLen ds = some r) : CallOk C k (.builtin "len") ds r := by
  unfold gLen at e
  split at e
  · split at e
    · rename_i h; cases e; exact len_ok (by simpa using h)
    · cases e
  · cases e
theorem gRange_ok {C : Cfg} {k : Nat} (ds : List D) (r : D) (e : gRange ds = some r) : CallOk C k (.type "range") ds r := by
  unfold gRange at e
  split at e
  · split at e
    · rename_i h; cases e; exact range1_ok h
    · cases e
  · split at e
    · rename_i h; cases e; exact range2_ok h
    · cases e
  · cases e
theorem gSorted_ok {C : Cfg} {k : Nat} (ds : List D) (r : D) (e : gSorted ds = some r) : CallOk C k (.builtin "sorted") ds r := by
  unfold gSorted at e
  split at e
  · simp only [Option.bind_eq_some_iff] at e
    obtain ⟨ns, h1, h2⟩ := e
    split at h2
    · rename_i h; cases h2; rw [intsOf_eq h1]; exact sorted_ok (by simpa using h)
    · cases h2
  · cases e

def runF (G : Fn) (sc : Sc) (body : List Stmt) (ps : List Str) (ds : List D) : Option D := (exB (exS G 30 30 sc) body (ps.zip ds)).bind (·.2)
theorem runF_ok {C : Cfg} {k : Nat} {G : Fn} {a : Addr} {fd : FuncData} {body : List Stmt} {ps : List Str} {ds ex : List D} {r : D} {exv : List Value} (CO : CfgOk C) (GO : GOk C k G) (DA : DefAt C a fd body)
    (hsc : defSc fd.scope.names ps = true) (hex : ∀ X h, RpL X h ex exv) (hb : ∀ (vs : List Value) (s : Shared), HOk C s.heap → vs.length = ds.length → BindsTo s fd ⟨vs, []⟩ (ps.zip (vs ++ exv)))
    (e : runF G fd.scope.names body ps (ds ++ ex) = some r) : CallOk C (k + 1) (.ref a) ds r := by
  simp only [runF, Option.bind_eq_some_iff] at e
  obtain ⟨⟨φ', o⟩, h1, h2⟩ := e
  dsimp only at h2
  subst h2
  exact fun_ok CO GO DA hsc hex hb h1

def P2 : List Stmt := PySem.Challenge.pw_gg0004_02.main.body
def f21 : Stmt := fdef "_int2digits" P2
def f28 : Stmt := fdef "_digits2int" P2
def f37 : Stmt := fdef "insort_left" P2
def f46 : Stmt := fdef "bisect_left" P2
def f53 : Stmt := fdef "_law_colours" P2
def f58 : Stmt := fdef "_law_sums" P2
def f63 : Stmt := fdef "_law_steps" P2
def f68 : Stmt := fdef "_law_free" P2
def f73 : Stmt := fdef "law" P2
def J21 : In0 := (mkIn0 (sBody f21)).get rfl
def J28 : Jn0 := (mkJn0 (sBody f28)).get rfl
def J37 : Ins := (mkIns (sBody f37)).get rfl
theorem J21_body : J21.body = sBody f21 := rfl
theorem J28_body : J28.body = sBody f28 := rfl
theorem J37_body : J37.body = sBody f37 := rfl
theorem J28_ok : J28.ok (sNames f28) ["digits", "n"] ["L", "R"] = true := by decide +kernel
theorem J37_ok : J37.ok (sNames f37) ["x", "lo", "hi", "key"] = true := by decide +kernel
theorem J21_ok : J21.ok (sNames f21) ["a", "n"] ["x", "L", "R"] = true := by decide +kernel

def gI : List D → Option D
  | [.int a, .int n] => i2d Gb 30 (sNames f21) ["a", "n"] ["x", "L", "R"] J21 8 [.int a, .int n]
  | _ => none
def gD : List D → Option D
  | [.lst l, .int n] => d2i Gb 30 (sNames f28) ["digits", "n"] ["L", "R"] J28 8 [.lst l, .int n]
  | _ => none
def G1 : Fn := addG "_int2digits" gI (addG "_digits2int" gD Gb)
def gC : List D → Option D
  | [a, b] => runF G1 (sNames f53) (sBody f53) ["number", "many"] [a, b]
  | _ => none
def gS : List D → Option D
  | [a] => runF Gb (sNames f58) (sBody f58) ["colours"] [a]
  | _ => none
def gT : List D → Option D
  | [a] => runF Gb (sNames f63) (sBody f63) ["colours"] [a]
  | _ => none
def gF : List D → Option D
  | [a] => runF Gb (sNames f68) (sBody f68) ["row"] [a]
  | _ => none
def ps5 : List Str := ["a", "x", "lo", "hi", "key"]
def gB : List D → Option D
  | [a, x] => runF Gb (sNames f46) (sBody f46) ps5 [a, x, .int 0, .none, .none]
  | [a, x, lo, hi] => runF Gb (sNames f46) (sBody f46) ps5 [a, x, lo, hi, .none]
  | _ => none
def GB : Fn := addG "bisect_left" gB Gb
def G2 : Fn := addG "_law_colours" gC (addG "_law_sums" gS (addG "_law_steps" gT (addG "_law_free" gF (addG "bisect_left" gB G1))))
def gIns (x : D) (l : List D) : Option (List D) := ins GB 30 (sNames f37) ["x", "lo", "hi", "key"] [x, .int 0, .none, .none] J37 l
end Mine
namespace Mine
open PySem PySem.Spec PySem.Calls PyProof.Rows PySem.W
set_option linter.unusedVariables false
set_option maxRecDepth 100000
set_option Elab.async false
open_top hd for PySem.Challenge.rw_gg0004_02

section
variable {w : World} {B : Heap} {mg mb : Str → Option Value} {loose : List Str} {mean : ExcName → Option Value}
abbrev C2 (w : World) (B : Heap) (mg mb : Str → Option Value) : Cfg := ⟨PySem.Challenge.rw_gg0004_02.row.prog, w, B, mg, mb, [(20, 16, J21.dp, "_int2digits" ++ ".<locals>." ++ J21.nm), (27, 23, J28.dp, "_digits2int" ++ ".<locals>." ++ J28.nm)]⟩

structure Ctx2 (w : World) (B : Heap) (mg mb : Str → Option Value) (loose : List Str) (mean : ExcName → Option Value) : Prop where
  X : (hd.heap_39 w.params).In B
  T : Top topProg loose mean mg mb B
  c1 : CodeHd B 20 16
  c2 : CodeHd B 27 23
  n1 : B.get? 16 = none
  n2 : B.get? 23 = none

theorem Ctx2.cfg (c : Ctx2 w B mg mb loose mean) : CfgOk (C2 w B mg mb) := ⟨c.T.g, c.T.b, c.T.nolimit⟩
theorem Ctx2.tbs (c : Ctx2 w B mg mb loose mean) : TbsOk (C2 w B mg mb) where
  hd := fun q hq => by
    rcases List.mem_cons.mp hq with rfl | hq
    · exact c.c1
    · rw [List.mem_singleton] at hq; subst hq; exact c.c2
  no := fun q hq => by
    rcases List.mem_cons.mp hq with rfl | hq
    · exact c.n1
    · rw [List.mem_singleton] at hq; subst hq; exact c.n2
  one := fun q hq q' hq' e => by
    rcases List.mem_cons.mp hq with rfl | hq <;> rcases List.mem_cons.mp hq' with rfl | hq'
    · rfl
    · rw [List.mem_singleton] at hq'; subst hq'; cases e
    · rw [List.mem_singleton] at hq; subst hq; cases e
    · rw [List.mem_singleton] at hq hq'; subst hq; subst hq'; rfl
  bm := by
    obtain ⟨bm, ob, b1, b2, b3, b4, b5, b6⟩ := c.T.bmain
    have hbG : bm ≠ mainGlobals := fun q => by
      obtain ⟨o, es, ep, e, hdt, _⟩ := c.T.g
      rw [q, e] at b3; cases b3; rw [hdt] at b6; cases b6
    exact ⟨bm, ob, b1, b2, hbG, b3, b4, b5, b6⟩

theorem Ctx2.blt (c : Ctx2 w B mg mb loose mean) {x : Str} {v : Value} (e : nsIn (hd.heap_39 w.params) mainGlobals x = some none) (hv : bootBuiltins x = some v) (hn : x ≠ "__name__") : Gval (C2 w B mg mb) x v :=
  .inr ⟨mg_none_of c.X c.T.g e, (c.T.builtins x hn).trans hv⟩
theorem Ctx2.glb (c : Ctx2 w B mg mb loose mean) {x : Str} {v : Value} (e : nsIn (hd.heap_39 w.params) mainGlobals x = some (some v)) : Gval (C2 w B mg mb) x v :=
  .inl (mg_of c.X c.T.g e)

theorem Ctx2.Gb (c : Ctx2 w B mg mb loose mean) : GOk (C2 w B mg mb) 0 Gb := by
  refine ((GOk.none.add (by decide) (c.blt rfl rfl (by decide)) (keep_machine (by nofun)) gSorted_ok).add (by decide) (c.blt rfl rfl (by decide)) (keep_machine (by nofun)) gRange_ok).add (by decide) (c.blt rfl rfl (by decide)) (keep_machine (by nofun)) gLen_ok
theorem Ctx2.d21 (c : Ctx2 w B mg mb loose mean) : ∃ fd, DefAt (C2 w B mg mb) 21 fd (sBody f21) ∧ fd.scope.names = sNames f21 ∧ fd.qualname = "_int2digits" ∧ fd.code = .ref 20 ∧
    ∀ (vs : List Value) (s : Shared), HOk (C2 w B mg mb) s.heap → vs.length = 2 → BindsTo s fd ⟨vs, []⟩ ((["a", "n"] : List Str).zip vs) :=
  ⟨_, ⟨⟨_, c.X 21 _ rfl, rfl⟩, rfl, rfl, rfl, rfl, rfl, rfl, rfl, ⟨20, _, _, _, rfl, c.X 20 _ rfl, rfl, rfl⟩⟩, rfl, rfl, rfl, fun vs s H e => by
    match vs, e with
    | [v0, v1], _ => exact kp_binds (K := hd.heap_39 w.params) (fun b o q => H.base _ _ (c.X b o q)) fun _ => rfl⟩
theorem Ctx2.d28 (c : Ctx2 w B mg mb loose mean) : ∃ fd, DefAt (C2 w B mg mb) 28 fd (sBody f28) ∧ fd.scope.names = sNames f28 ∧ fd.qualname = "_digits2int" ∧ fd.code = .ref 27 ∧
    ∀ (vs : List Value) (s : Shared), HOk (C2 w B mg mb) s.heap → vs.length = 2 → BindsTo s fd ⟨vs, []⟩ ((["digits", "n"] : List Str).zip vs) :=
  ⟨_, ⟨⟨_, c.X 28 _ rfl, rfl⟩, rfl, rfl, rfl, rfl, rfl, rfl, rfl, ⟨27, _, _, _, rfl, c.X 27 _ rfl, rfl, rfl⟩⟩, rfl, rfl, rfl, fun vs s H e => by
    match vs, e with
    | [v0, v1], _ => exact kp_binds (K := hd.heap_39 w.params) (fun b o q => H.base _ _ (c.X b o q)) fun _ => rfl⟩
theorem Ctx2.d53 (c : Ctx2 w B mg mb loose mean) : ∃ fd, DefAt (C2 w B mg mb) 53 fd (sBody f53) ∧ fd.scope.names = sNames f53 ∧ fd.qualname = "_law_colours" ∧ fd.code = .ref 52 ∧
    ∀ (vs : List Value) (s : Shared), HOk (C2 w B mg mb) s.heap → vs.length = 2 → BindsTo s fd ⟨vs, []⟩ ((["number", "many"] : List Str).zip vs) :=
  ⟨_, ⟨⟨_, c.X 53 _ rfl, rfl⟩, rfl, rfl, rfl, rfl, rfl, rfl, rfl, ⟨52, _, _, _, rfl, c.X 52 _ rfl, rfl, rfl⟩⟩, rfl, rfl, rfl, fun vs s H e => by
    match vs, e with
    | [v0, v1], _ => exact kp_binds (K := hd.heap_39 w.params) (fun b o q => H.base _ _ (c.X b o q)) fun _ => rfl⟩
theorem Ctx2.d58 (c : Ctx2 w B mg mb loose mean) : ∃ fd, DefAt (C2 w B mg mb) 58 fd (sBody f58) ∧ fd.scope.names = sNames f58 ∧ fd.qualname = "_law_sums" ∧ fd.code = .ref 57 ∧
    ∀ (vs : List Value) (s : Shared), HOk (C2 w B mg mb) s.heap → vs.length = 1 → BindsTo s fd ⟨vs, []⟩ ((["colours"] : List Str).zip vs) :=
  ⟨_, ⟨⟨_, c.X 58 _ rfl, rfl⟩, rfl, rfl, rfl, rfl, rfl, rfl, rfl, ⟨57, _, _, _, rfl, c.X 57 _ rfl, rfl, rfl⟩⟩, rfl, rfl, rfl, fun vs s H e => by
    match vs, e with
    | [v0], _ => exact kp_binds (K := hd.heap_39 w.params) (fun b o q => H.base _ _ (c.X b o q)) fun _ => rfl⟩
theorem Ctx2.d63 (c : Ctx2 w B mg mb loose mean) : ∃ fd, DefAt (C2 w B mg mb) 63 fd (sBody f63) ∧ fd.scope.names = sNames f63 ∧ fd.qualname = "_law_steps" ∧ fd.code = .ref 62 ∧
    ∀ (vs : List Value) (s : Shared), HOk (C2 w B mg mb) s.heap → vs.length = 1 → BindsTo s fd ⟨vs, []⟩ ((["colours"] : List Str).zip vs) :=
  ⟨_, ⟨⟨_, c.X 63 _ rfl, rfl⟩, rfl, rfl, rfl, rfl, rfl, rfl, rfl, ⟨62, _, _, _, rfl, c.X 62 _ rfl, rfl, rfl⟩⟩, rfl, rfl, rfl, fun vs s H e => by
    match vs, e with
    | [v0], _ => exact kp_binds (K := hd.heap_39 w.params) (fun b o q => H.base _ _ (c.X b o q)) fun _ => rfl⟩
theorem Ctx2.d68 (c : Ctx2 w B mg mb loose mean) : ∃ fd, DefAt (C2 w B mg mb) 68 fd (sBody f68) ∧ fd.scope.names = sNames f68 ∧ fd.qualname = "_law_free" ∧ fd.code = .ref 67 ∧
    ∀ (vs : List Value) (s : Shared), HOk (C2 w B mg mb) s.heap → vs.length = 1 → BindsTo s fd ⟨vs, []⟩ ((["row"] : List Str).zip vs) :=
  ⟨_, ⟨⟨_, c.X 68 _ rfl, rfl⟩, rfl, rfl, rfl, rfl, rfl, rfl, rfl, ⟨67, _, _, _, rfl, c.X 67 _ rfl, rfl, rfl⟩⟩, rfl, rfl, rfl, fun vs s H e => by
    match vs, e with
    | [v0], _ => exact kp_binds (K := hd.heap_39 w.params) (fun b o q => H.base _ _ (c.X b o q)) fun _ => rfl⟩
end
end Mine
namespace Mine
open PySem PySem.Spec PySem.Calls PyProof.Rows PySem.W
set_option linter.unusedVariables false
set_option maxRecDepth 100000

section
variable {w : World} {B : Heap} {mg mb : Str → Option Value} {loose : List Str} {mean : ExcName → Option Value}
theorem Ctx2.d46 (c : Ctx2 w B mg mb loose mean) : ∃ fd, DefAt (C2 w B mg mb) 46 fd (sBody f46) ∧ fd.scope.names = sNames f46 ∧
    (∃ t, ∀ (vs : List Value) (s : Shared), HOk (C2 w B mg mb) s.heap → vs.length = 2 → BindsTo s fd ⟨vs, []⟩ (ps5.zip (vs ++ [.int 0 t, .none, .none]))) ∧
    ∀ (vs : List Value) (s : Shared), HOk (C2 w B mg mb) s.heap → vs.length = 4 → BindsTo s fd ⟨vs, []⟩ (ps5.zip (vs ++ [.none])) :=
  ⟨_, ⟨⟨_, c.X 46 _ rfl, rfl⟩, rfl, rfl, rfl, rfl, rfl, rfl, rfl, ⟨45, _, _, _, rfl, c.X 45 _ rfl, rfl, rfl⟩⟩, rfl, ⟨_, fun vs s H e => by
    match vs, e with
    | [v0, v1], _ => exact kp_binds (K := hd.heap_39 w.params) (fun b o q => H.base _ _ (c.X b o q)) fun _ => rfl⟩, fun vs s H e => by
    match vs, e with
    | [v0, v1, v2, v3], _ => exact kp_binds (K := hd.heap_39 w.params) (fun b o q => H.base _ _ (c.X b o q)) fun _ => rfl⟩
theorem Ctx2.d37 (c : Ctx2 w B mg mb loose mean) : ∃ fd, DefAt (C2 w B mg mb) 37 fd (sBody f37) ∧ fd.scope.names = sNames f37 ∧
    ∃ t, ∀ (vs : List Value) (s : Shared), HOk (C2 w B mg mb) s.heap → vs.length = 2 → BindsTo s fd ⟨vs, []⟩ ((("a" : Str) :: ["x", "lo", "hi", "key"]).zip (vs ++ [.int 0 t, .none, .none])) :=
  ⟨_, ⟨⟨_, c.X 37 _ rfl, rfl⟩, rfl, rfl, rfl, rfl, rfl, rfl, rfl, ⟨36, _, _, _, rfl, c.X 36 _ rfl, rfl, rfl⟩⟩, rfl, ⟨_, fun vs s H e => by
    match vs, e with
    | [v0, v1], _ => exact kp_binds (K := hd.heap_39 w.params) (fun b o q => H.base _ _ (c.X b o q)) fun _ => rfl⟩⟩

theorem gI_ok (c : Ctx2 w B mg mb loose mean) (ds : List D) (r : D) (e : gI ds = some r) : CallOk (C2 w B mg mb) 9 (.ref 21) ds r := by
  unfold gI at e
  split at e
  · rename_i a n
    obtain ⟨fd, DA, hn, hq, hc, hb⟩ := c.d21
    rw [← hn] at e
    refine i2d_ok (k := 0) (m := 8) (J := J21) (ips := ["x", "L", "R"]) c.cfg c.tbs c.Gb (J21_body ▸ DA) (hn ▸ by decide +kernel) (hn ▸ J21_ok) rfl rfl hb (by rw [hq]; exact List.mem_cons_self) hc rfl rfl (fun env => rfl) (fun cl doc pm cdv ctv vs hl => ?_) (by nofun) e
    match vs, hl with
    | [v0, v1, v2], _ => rfl
  · cases e
theorem gD_ok (c : Ctx2 w B mg mb loose mean) (ds : List D) (r : D) (e : gD ds = some r) : CallOk (C2 w B mg mb) 9 (.ref 28) ds r := by
  unfold gD at e
  split at e
  · rename_i a n
    obtain ⟨fd, DA, hn, hq, hc, hb⟩ := c.d28
    rw [← hn] at e
    refine d2i_ok (k := 0) (m := 8) (J := J28) (ips := ["L", "R"]) c.cfg c.tbs c.Gb (J28_body ▸ DA) (hn ▸ by decide +kernel) (hn ▸ J28_ok) rfl hb (by rw [hq]; exact List.mem_cons_of_mem _ List.mem_cons_self) hc rfl rfl (fun env => rfl) (fun cl doc pm cdv ctv vs hl => ?_) e
    match vs, hl with
    | [v0, v1], _ => rfl
  · cases e
theorem Ctx2.keep21 (c : Ctx2 w B mg mb loose mean) : Keepable (C2 w B mg mb) (.ref 21) := let ⟨_, d, _⟩ := c.d21; keep_def d
theorem Ctx2.keep28 (c : Ctx2 w B mg mb loose mean) : Keepable (C2 w B mg mb) (.ref 28) := let ⟨_, d, _⟩ := c.d28; keep_def d
theorem Ctx2.G1 (c : Ctx2 w B mg mb loose mean) : GOk (C2 w B mg mb) 9 G1 :=
  ((c.Gb.mono (by decide)).add (by decide) (c.glb rfl) c.keep28 (gD_ok c)).add (by decide) (c.glb rfl) c.keep21 (gI_ok c)
theorem gC_ok (c : Ctx2 w B mg mb loose mean) (ds : List D) (r : D) (e : gC ds = some r) : CallOk (C2 w B mg mb) 10 (.ref 53) ds r := by
  unfold gC at e
  split at e
  · obtain ⟨fd, DA, hn, hq, hc, hb⟩ := c.d53
    rw [← hn] at e
    exact runF_ok (ex := []) (exv := []) c.cfg c.G1 DA (hn ▸ by decide +kernel) (fun X h => by simp only [RpL]) (fun vs s H q => by rw [List.append_nil]; exact hb vs s H q) e
  · cases e
theorem gS_ok (c : Ctx2 w B mg mb loose mean) (ds : List D) (r : D) (e : gS ds = some r) : CallOk (C2 w B mg mb) 1 (.ref 58) ds r := by
  unfold gS at e
  split at e
  · obtain ⟨fd, DA, hn, hq, hc, hb⟩ := c.d58
    rw [← hn] at e
    exact runF_ok (ex := []) (exv := []) c.cfg c.Gb DA (hn ▸ by decide +kernel) (fun X h => by simp only [RpL]) (fun vs s H q => by rw [List.append_nil]; exact hb vs s H q) e
  · cases e
theorem gT_ok (c : Ctx2 w B mg mb loose mean) (ds : List D) (r : D) (e : gT ds = some r) : CallOk (C2 w B mg mb) 1 (.ref 63) ds r := by
  unfold gT at e
  split at e
  · obtain ⟨fd, DA, hn, hq, hc, hb⟩ := c.d63
    rw [← hn] at e
    exact runF_ok (ex := []) (exv := []) c.cfg c.Gb DA (hn ▸ by decide +kernel) (fun X h => by simp only [RpL]) (fun vs s H q => by rw [List.append_nil]; exact hb vs s H q) e
  · cases e
theorem gF_ok (c : Ctx2 w B mg mb loose mean) (ds : List D) (r : D) (e : gF ds = some r) : CallOk (C2 w B mg mb) 1 (.ref 68) ds r := by
  unfold gF at e
  split at e
  · obtain ⟨fd, DA, hn, hq, hc, hb⟩ := c.d68
    rw [← hn] at e
    exact runF_ok (ex := []) (exv := []) c.cfg c.Gb DA (hn ▸ by decide +kernel) (fun X h => by simp only [RpL]) (fun vs s H q => by rw [List.append_nil]; exact hb vs s H q) e
  · cases e
theorem exv3 {t : Tok} (X : Addr → Prop) (h : Heap) : RpL X h [.int 0, .none, .none] [.int 0 t, .none, .none] := by
  simp only [RpL, Rp]; exact ⟨_, _, rfl, ⟨t, rfl⟩, _, _, rfl, rfl, _, _, rfl, rfl, rfl⟩
theorem exv1 (X : Addr → Prop) (h : Heap) : RpL X h [.none] [.none] := by
  simp only [RpL, Rp]; exact ⟨_, _, rfl, rfl, rfl⟩
theorem gB_ok (c : Ctx2 w B mg mb loose mean) (ds : List D) (r : D) (e : gB ds = some r) : CallOk (C2 w B mg mb) 1 (.ref 46) ds r := by
  unfold gB at e
  obtain ⟨fd, DA, hn, ⟨t, hb2⟩, hb4⟩ := c.d46
  rw [← hn] at e
  split at e
  · rename_i a x
    exact runF_ok (ds := [a, x]) (ex := [.int 0, .none, .none]) c.cfg c.Gb DA (hn ▸ by decide +kernel) exv3 hb2 e
  · rename_i a x lo hi
    exact runF_ok (ds := [a, x, lo, hi]) (ex := [.none]) c.cfg c.Gb DA (hn ▸ by decide +kernel) exv1 hb4 e
  · cases e
theorem Ctx2.keep46 (c : Ctx2 w B mg mb loose mean) : Keepable (C2 w B mg mb) (.ref 46) := let ⟨_, d, _⟩ := c.d46; keep_def d
theorem Ctx2.GB (c : Ctx2 w B mg mb loose mean) : GOk (C2 w B mg mb) 1 GB :=
  (c.Gb.mono (by decide)).add (by decide) (c.glb rfl) c.keep46 (gB_ok c)
theorem gIns_ok (c : Ctx2 w B mg mb loose mean) (x : D) (l l' : List D) (e : gIns x l = some l') : ProcOk (C2 w B mg mb) 2 (.ref 37) [x] l l' := by
  obtain ⟨fd, DA, hn, t, hb⟩ := c.d37
  unfold gIns at e
  rw [← hn] at e
  exact insort_ok (J := J37) (pt := ["x", "lo", "hi", "key"]) (ds := [x]) (ex := [.int 0, .none, .none]) c.cfg c.GB (J37_body ▸ DA) (hn ▸ by decide +kernel) (hn ▸ J37_ok) exv3 hb (by nofun) e
theorem Ctx2.keep (c : Ctx2 w B mg mb loose mean) : Keepable (C2 w B mg mb) (.ref 53) ∧ Keepable (C2 w B mg mb) (.ref 58) ∧ Keepable (C2 w B mg mb) (.ref 63) ∧ Keepable (C2 w B mg mb) (.ref 68) ∧ Keepable (C2 w B mg mb) (.ref 37) :=
  ⟨let ⟨_, d, _⟩ := c.d53; keep_def d, let ⟨_, d, _⟩ := c.d58; keep_def d, let ⟨_, d, _⟩ := c.d63; keep_def d, let ⟨_, d, _⟩ := c.d68; keep_def d, let ⟨_, d, _⟩ := c.d37; keep_def d⟩
theorem Ctx2.G2 (c : Ctx2 w B mg mb loose mean) : GOk (C2 w B mg mb) 10 G2 := by
  obtain ⟨k1, k2, k3, k4, _⟩ := c.keep
  exact (((((c.G1.mono (by decide)).add (by decide) (c.glb rfl) c.keep46 fun ds r e => (gB_ok c ds r e).mono (by decide)).add (by decide) (c.glb rfl) k4 fun ds r e => (gF_ok c ds r e).mono (by decide)).add (by decide) (c.glb rfl) k3 fun ds r e => (gT_ok c ds r e).mono (by decide)).add
    (by decide) (c.glb rfl) k2 fun ds r e => (gS_ok c ds r e).mono (by decide)).add (by decide) (c.glb rfl) k1 (gC_ok c)
end
end Mine
namespace Mine
open PySem PySem.Spec PySem.Calls PyProof.Rows PySem.W
set_option linter.unusedVariables false
set_option maxRecDepth 100000

def sScope : Stmt → Option Scope
  | .FunctionDef _ _ _ _ _ _ sc .. => some sc
  | _ => none
def sc73 : Scope := (sScope f73).get rfl
def n73 : Sc := sNames f73
def b73 : List Stmt := sBody f73
def st0 : Stmt := (b73[0]?).get rfl
def st5 : Stmt := (b73[5]?).get rfl
def st7 : Stmt := (b73[7]?).get rfl
def qA : List Stmt := (b73.drop 1).take 2
def qB : List Stmt := (b73.drop 3).take 2
def qC : List Stmt := (b73.drop 6).take 1
def qD : List Stmt := b73.drop 8
theorem b73_eq : b73 = st0 :: (qA ++ (qB ++ (st5 :: (qC ++ (st7 :: qD))))) := rfl

def fold : List D → List D → Option (List D)
  | [], c => some c
  | d :: r, c => (gD [d, .int 1]).bind fun x => (gIns x c).bind (fold r)

/-- what is left to show in plain Lean -/
structure Plain2 (rows fin : List D) : Prop where
  a : ∀ m : Int, 0 ≤ m → m < 512 → ∃ φ, exB (exS G2 30 30 n73) qA [("number", .int m)] = some (φ, none)
  b : ∃ φ, exB (exS G2 30 30 n73) qB [] = some (φ, none)
  c : ∀ L, ∃ t, exB (exS G2 30 30 n73) qC [("order", .adr L), ("rows", .lst [.lst []])] = some (([("order", .adr L), ("rows", .lst rows), ("turn", t)] : Ph), none)
  f : fold rows.reverse [] = some fin
  z : rows.length ≤ 1000
  d : ∃ φ, exB (exS G2 30 30 n73) qD [("order", .lst fin)] = some (φ, some (.bool true))

section
variable {w : World} {B : Heap} {mg mb : Str → Option Value} {loose : List Str} {mean : ExcName → Option Value} {L a : Addr} {cd : Value} {m : Str → Option Value} {h : Heap}

abbrev env2 (L a : Addr) (cd : Value) : Env := envOf "law" sc73 L a cd

theorem fr0 (c : Ctx2 w B mg mb loose mean) (F : Fr B L h m) (N : News B L h [(16, tabObj #[]), (23, tabObj #[])]) : FrOk (C2 w B mg mb) (fun b => (C2 w B mg mb).Tb b ∨ b = L) n73 (env2 L a cd) [] h := by
  have t16 := N _ List.mem_cons_self
  have t23 := N _ (List.mem_cons_of_mem _ List.mem_cons_self)
  have H : HOk (C2 w B mg mb) h := ⟨F.keep, fun q hq => by
    rcases List.mem_cons.mp hq with rfl | hq
    · exact ⟨#[], t16.1, trivial, .inl rfl⟩
    · rw [List.mem_singleton] at hq; subst hq
      exact ⟨#[], t23.1, trivial, .inl rfl⟩⟩
  have nT : ¬ (C2 w B mg mb).Tb L := fun ⟨q, hq, e⟩ => by
    rcases List.mem_cons.mp hq with rfl | hq
    · exact t16.2.1 e
    · rw [List.mem_singleton] at hq; subst hq; exact t23.2.1 e
  have ec : ∀ x c, (env2 L a cd).cells.lookup x = some c → False := fun x c e => by cases (show (none : Option Addr) = some c from e)
  have ep : ∀ x d, ([] : Ph).lookup x = some d → False := fun x d e => by cases (show (none : Option D) = some d from e)
  refine ⟨⟨H, ⟨fun b q => .inl q, fun b q => ?_⟩, ⟨rfl, rfl, rfl, nT, .inr rfl, fun x c e => (ec x c e).elim, fun x c e => (ec x c e).elim, fun x => .inl rfl, fun x hx => ?_, fun x d e => (ep x d e).elim⟩⟩, ⟨m, F.ns⟩, Heap.get?_none_of_le F.above, fun x hx => ?_, fun x y c e => (ec _ _ e).elim⟩
  · rcases q with q | q
    · exact H.tbEx q
    · exact q ▸ Ns_ex F.ns
  · have : ∀ p ∈ n73, p.2 ≠ .cell ∧ p.2 ≠ .free := by decide +kernel
    rcases hx with hx | hx
    · exact ((this _ (mem_lookup hx)).1 rfl).elim
    · exact ((this _ (mem_lookup hx)).2 rfl).elim
  · have : ∀ p ∈ n73, p.2 ≠ .cell := by decide +kernel
    exact (this _ (mem_lookup hx) rfl).elim

/-- the first statement: some number under 512 -/
theorem head2 (c : Ctx2 w B mg mb loose mean) {A : Around} {s : Shared} {l : Addr} {vs : List Value} {ns : List Int} {Q : Flow → Shared → Prop} {E : Value → Shared → Prop} (hA : A.handled = none) (F : Fr B L s.heap m) (hm : m "script" = some (.ref l)) (N : News B L s.heap [(16, tabObj #[]), (23, tabObj #[])])
    (hl : B.IsList l vs.toArray) (hI : IntsAre vs ns)
    (h : ∀ (x : Int) h' tk, 0 ≤ x → x < 512 → FrOk (C2 w B mg mb) (fun b => (C2 w B mg mb).Tb b ∨ b = L) n73 (env2 L a cd) [("number", .int x)] h' → Q .next { s with heap := h', toks := tk }) :
    wpAny (model (C2 w B mg mb).prog (C2 w B mg mb).w) A (exec st0 (env2 L a cd)) Q E s := by
  have hl' : s.heap.IsList l vs.toArray := let ⟨o, e, r⟩ := hl; ⟨o, F.keep _ _ e, r⟩
  refine wpAny_Assign_Name (wpAny_BinOp ?_) rfl
  refine callB1_ok c.cfg (fr0 (a := a) (cd := cd) c F N).st rfl rfl (c.blt rfl rfl (by decide)) rfl ?_
  refine callB1_ok c.cfg (fr0 (a := a) (cd := cd) c F N).st rfl rfl (c.blt rfl rfl (by decide)) rfl ?_
  refine wpAny_Name (wpAny_loadName_local rfl rfl F.ns hm ?_) rfl
  refine LSm.sum_ints F N hA hl' hI fun h1 tk1 t1 F1 N1 => ?_
  refine call_abs_int fun u tk2 => ?_
  refine wpAny_Constant_int (mod_int (by decide) ?_)
  refine store_ok (d := .int ((if ns.sum < 0 then -ns.sum else ns.sum).fmod 512)) (s := { s with heap := h1, toks := _ }) (fr0 (a := a) (cd := cd) c F1 N1) rfl (by simp only [Rp]; exact ⟨_, rfl⟩) fun h2 tk3 F2 k2 => ?_
  refine h _ h2 tk3 ?_ ?_ F2
  · rw [Int.fmod_eq_emod_of_nonneg _ (by decide)]; exact Int.emod_nonneg _ (by decide)
  · rw [Int.fmod_eq_emod_of_nonneg _ (by decide)]; exact Int.emod_lt_of_pos _ (by decide)

/-- the law's walk -/
theorem walk2 (c : Ctx2 w B mg mb loose mean) {rows fin : List D} (pl : Plain2 rows fin) {A : Around} {s : Shared} {l : Addr} {vs : List Value} {ns : List Int} {Q : Flow → Shared → Prop} {E : Value → Shared → Prop} (K : Aok 10 A) (F : Fr B L s.heap m) (hm : m "script" = some (.ref l)) (N : News B L s.heap [(16, tabObj #[]), (23, tabObj #[])])
    (hl : B.IsList l vs.toArray) (hI : IntsAre vs ns) (h : ∀ h' tk, HOk (C2 w B mg mb) h' → Q (.ret (.bool true)) { s with heap := h', toks := tk }) :
    wpAny (model (C2 w B mg mb).prog (C2 w B mg mb).w) A (execs b73 (env2 L a cd)) Q E s := by
  have CO := c.cfg
  have GO := c.G2
  have EX : SOk (C2 w B mg mb) 10 n73 (exS G2 30 30 n73) := exS_ok CO GO 30 30 n73
  rw [b73_eq]
  refine wpAny_execs_cons (head2 (a := a) (cd := cd) c K.handled F hm N hl hI fun x h1 tk1 x0 x1 F1 => ?_)
  generalize (fun b => (C2 w B mg mb).Tb b ∨ b = L) = X at F1
  obtain ⟨φA, eA⟩ := pl.a x x0 x1
  refine exB_app EX K qA _ φA { s with heap := h1, toks := tk1 } eA F1 fun h2 tk2 F2 _ => ?_
  obtain ⟨φB, eB⟩ := pl.b
  refine exB_app EX K qB _ φB { s with heap := h2, toks := tk2 } eB (F2.sub fun x d e => by cases (show (none : Option D) = some d from e)) fun h3 tk3 F3 _ => ?_
  have F3' : FrOk (C2 w B mg mb) X n73 (env2 L a cd) [] h3 := F3.sub fun x d e => by cases (show (none : Option D) = some d from e)
  refine wpAny_execs_cons (twoStores_ok (s := { s with heap := h3, toks := tk3 }) (d := .lst [.lst []]) (N := 30) CO GO K F3' rfl rfl rfl (by decide) rfl rfl rfl fun Lo h4 tk4 M4 _ => ?_)
  obtain ⟨t, eC⟩ := pl.c Lo
  refine exB_app EX K qC _ _ { s with heap := h4, toks := tk4 } eC M4.fr fun h5 tk5 F5 k5 => ?_
  have M5 : MFr (C2 w B mg mb) X n73 (env2 L a cd) [("order", .adr Lo), ("rows", .lst rows), ("turn", t)] [(("order" : Str), Lo, [])] h5 := M4.names F5 k5 fun q hq => by
    rw [List.mem_singleton] at hq; subst hq; rfl
  have mdc : ∀ (c1 c2 : List D) b, Md [(("order" : Str), Lo, c1)] b ↔ Md [(("order" : Str), Lo, c2)] b := fun c1 c2 b => by simp [Md]
  refine wpAny_execs_cons (forM_ok (G := G2) (N := 30) (s := { s with heap := h5, toks := tk5 }) CO GO K M5 rfl (fun rest φ' ms' => ∃ c', ms' = [(("order" : Str), Lo, c')] ∧ fold rest c' = some fin) (d := .lst rows.reverse) (its := rows.reverse) ?_ ?_ ⟨[], rfl, pl.f⟩ ?_ ?_ ?_)
  · show (if decide (rows.length ≤ 1000) then some (D.lst rows.reverse) else none) = _
    rw [if_pos (by simpa using pl.z)]
  · simp [itemsD, pl.z]
  · rintro rest φ' ms' ⟨c', rfl, _⟩
    refine ⟨fun q hq => ?_, fun b => mdc _ _ b⟩
    rw [List.mem_singleton] at hq; subst hq
    exact (by decide : ("order" : Str) ≠ "row")
  · rintro d rest φ' ms' ⟨c', rfl, hf⟩ X' s' M _ ⟨h', tk', rfl⟩ Q' E' hQ
    simp only [fold, Option.bind_eq_some_iff] at hf
    obtain ⟨x', hx, c'', hc, hr⟩ := hf
    have F6 : FrOk (C2 w B mg mb) (Xm X' [(("order" : Str), Lo, c')]) n73 (env2 L a cd) [("order", .adr Lo), ("row", d)] h' := M.fr.sub fun y e he => by
      by_cases q1 : y = "order"
      · subst q1
        have := (M.ls _ (List.mem_singleton.mpr rfl)).2.2.2
        dsimp only at this
        rw [this]; exact he
      · rw [List.lookup_cons, beq_eq_false_iff_ne.mpr q1] at he
        by_cases q2 : y = "row"
        · subst q2
          rw [lookup_setA, if_pos rfl]; exact he
        · rw [List.lookup_cons, beq_eq_false_iff_ne.mpr q2] at he; cases he
    refine wpAny_execs_cons (wpAny_Expr_any ?_ rfl rfl)
    refine callP_ok (s := { s with heap := h', toks := tk' }) (L := Lo) (ds := [x']) CO K ((ev_ok CO GO 30).1 _ n73 _ _) F6.st rfl rfl (c.glb rfl) c.keep.2.2.2.2 ?_ fun vs' h7 tk7 H7 k7 r7 => ?_
    · show (Option.bind (some (D.adr Lo)) fun d' => Option.bind (Option.bind (gD [d, .int 1]) fun d => Option.bind (some []) fun l => some (d :: l)) fun l => some (d' :: l)) = _
      rw [hx]; rfl
    · have M7 := M.kp H7 k7
      obtain ⟨hl7, hb7, _⟩ := M7.ls _ (List.mem_singleton.mpr rfl)
      refine (gIns_ok c x' c' c'' hc).mono (by decide) A _ Lo vs' { s with heap := h7, toks := tk7 } _ _ K H7 M7.fr.st.x (.inr ⟨_, List.mem_singleton.mpr rfl, rfl⟩) hb7 hl7 r7 fun h8 tk8 H8 k8 hl8 => ?_
      have M8 := M7.change (a := Lo) ⟨_, List.mem_singleton.mpr rfl, rfl⟩ H8 k8 hl8
      simp only [setM, List.map_cons, List.map_nil, if_true] at M8
      refine wpAny_execs_nil (hQ _ _ h8 tk8 ⟨c'', rfl, hr⟩ M8 ?_)
      refine (k7.mono fun b q => .inl (.inl q)).trans (k8.mono fun b q => ?_)
      rcases q with q | q
      · exact .inl (.inl q)
      · exact .inr ⟨_, List.mem_singleton.mpr rfl, q.symm⟩
  · rintro φ' ms' h9 tk9 ⟨c', rfl, hf⟩ M9 _
    simp only [fold, Option.some.injEq] at hf
    subst hf
    obtain ⟨φD, eD⟩ := pl.d
    have F9 : FrOk (C2 w B mg mb) X n73 (env2 L a cd) [("order", .lst c')] h9 := M9.seen.sub fun y e he => by
      rw [view, lookup_app]
      have : ([(("order" : Str), Lo, c')].map fun q => (q.1, D.lst q.2.2)).lookup y = some e := he
      rw [this]; rfl
    refine exB_ok EX qD _ _ eD A X (env2 L a cd) { s with heap := h9, toks := tk9 } _ _ K F9 fun h10 tk10 F10 _ => ?_
    intro v rv
    simp only [Rp] at rv; subst rv
    exact h h10 tk10 F10.st.H
end
end Mine
namespace Mine
open PySem PySem.Spec PySem.Calls PyProof.Rows PySem.W
set_option linter.unusedVariables false
set_option maxRecDepth 100000

theorem aok0 {env : Env} : Aok 10 (callerA.deeper env) := Aok.deeper (k := 10) ⟨rfl, by decide +kernel, by decide +kernel⟩
theorem good2 {cl : Str → Option Addr} {mean : ExcName → Option Value} {args : List WData} {s : Shared} {h' : Heap} {w : World} {mg mb : Str → Option Value} (hg : s.gens = #[]) (H : HOk (C2 w s.heap mg mb) h') (st : Shared) (e1 : st.heap = h') (e2 : st.os = s.os) (e3 : st.gens = s.gens) :
    GoodW PySem.Challenge.rw_gg0004_02.row.claim cl mean args s (.ok (.ret (.bool true))) st ∧ GrownAll [(20, 16), (27, 23)] st.heap := by
  subst e1
  refine ⟨⟨.inl ⟨.bool true, .bool true, [], rfl, fun _ => rfl, .bool true, (by first | rfl | (with_unfolding_all rfl) | wrow_post | skip), fun _ => ⟨.nil, fun _ h => by cases h⟩⟩, H.base, e2, e3.trans hg⟩, ?_, ?_, trivial⟩
  · obtain ⟨ps, e, _⟩ := H.tabs _ List.mem_cons_self
    exact ⟨ps, e⟩
  · obtain ⟨ps, e, _⟩ := H.tabs _ (List.mem_cons_of_mem _ List.mem_cons_self)
    exact ⟨ps, e⟩
end Mine
namespace Mine
open PySem PySem.Spec PySem.Calls PyProof.Rows PySem.W
set_option linter.unusedVariables false
set_option maxRecDepth 100000
set_option Elab.async false
def il (l : List Int) : D := .lst (l.map .int)
def rows2 : List D := ([[0, 0, 1, 1, 0, 0, 1, 1], [0, 1, 0, 1, 1, 0, 1, 0], [0, 1, 1, 0, 0, 1, 1, 0], [1, 0, 0, 1, 1, 0, 0, 1], [1, 0, 1, 0, 0, 1, 0, 1], [1, 1, 0, 0, 1, 1, 0, 0]] : List (List Int)).map il
def fin2 : List D := ([51, 90, 102, 153, 165, 204] : List Int).map .int
def outNext : Option Out → Bool
  | some (_, none) => true
  | _ => false
def outTrue : Option Out → Bool
  | some (_, some (.bool true)) => true
  | _ => false
theorem outNext_of {o : Option Out} (h : outNext o = true) : ∃ φ, o = some (φ, none) := by
  unfold outNext at h
  split at h
  · exact ⟨_, rfl⟩
  · cases h
theorem outTrue_of {o : Option Out} (h : outTrue o = true) : ∃ φ, o = some (φ, some (.bool true)) := by
  unfold outTrue at h
  split at h
  · exact ⟨_, rfl⟩
  · cases h
theorem p2b : outNext (exB (exS G2 30 30 n73) qB []) = true := by decide +kernel
theorem p2d : outTrue (exB (exS G2 30 30 n73) qD [("order", .lst fin2)]) = true := by decide +kernel
theorem p2f : fold rows2.reverse [] = some fin2 := by kernel_rfl
theorem p2c (L : Addr) : exB (exS G2 30 30 n73) qC [("order", .adr L), ("rows", .lst [.lst []])] = some (([("order", .adr L), ("rows", .lst rows2), ("turn", .int 7)] : Ph), none) := by kernel_rfl
end Mine
namespace Mine
open PySem PySem.Spec PySem.Calls PyProof.Rows PySem.W
set_option linter.unusedVariables false
set_option maxRecDepth 100000
set_option Elab.async false

/-- a comprehension of two clauses, the first without tests: it ends, and is not empty where a test passes -/
theorem evComp1_total {f : Ph → Expr → Option D} {elt it : Expr} {x : Str} {px : Pos} {ifs : List Expr} {φ : Ph} (good : D → Prop) : ∀ (its : List D),
    (∀ d ∈ its, ∃ b, evIfs (f (setA x d φ)) ifs = some b ∧ (∃ r, f (setA x d φ) elt = some r ∧ good r)) →
    ∃ out, evComp f elt [⟨.Name x px, it, ifs, 0⟩] its φ = some out ∧ (∀ r ∈ out, good r) ∧ out.length ≤ its.length ∧ ((∃ d ∈ its, evIfs (f (setA x d φ)) ifs = some true) → out ≠ [])
  | [], _ => ⟨[], evComp_nil, by simp, by simp, by simp⟩
  | d :: r, h => by
    obtain ⟨out, e1, e2, e3, e4⟩ := evComp1_total good r fun d hd => h d (List.mem_cons_of_mem _ hd)
    obtain ⟨b, h1, v, h2, h3⟩ := h d List.mem_cons_self
    have et : turnOut f elt [] ifs (setA x d φ) = some (if b then [v] else []) := by
      unfold turnOut
      rw [h1]
      cases b <;> simp [h2]
    refine ⟨(if b then [v] else []) ++ out, by rw [evComp_cons, et, e1]; rfl, fun z hz => ?_, ?_, fun ⟨d', hd', hb⟩ => ?_⟩
    · rcases List.mem_append.mp hz with hz | hz
      · cases b
        · simp at hz
        · simp at hz; subst hz; exact h3
      · exact e2 z hz
    · cases b <;> simp <;> omega
    · rcases List.mem_cons.mp hd' with rfl | hd'
      · rw [h1] at hb; cases hb; simp
      · have := e4 ⟨d', hd', hb⟩
        simp [this]
theorem evComp2_total {f : Ph → Expr → Option D} {elt it it2 : Expr} {x y : Str} {px py : Pos} {ifs : List Expr} {φ : Ph} {c : D} {its2 : List D} (good : D → Prop) (hc : itemsD c = some its2) : ∀ (its : List D),
    (∀ d ∈ its, f (setA x d φ) it2 = some c ∧ ∀ d2 ∈ its2, ∃ b, evIfs (f (setA y d2 (setA x d φ))) ifs = some b ∧ (∃ r, f (setA y d2 (setA x d φ)) elt = some r ∧ good r)) →
    ∃ out, evComp f elt [⟨.Name x px, it, [], 0⟩, ⟨.Name y py, it2, ifs, 0⟩] its φ = some out ∧ (∀ r ∈ out, good r) ∧ out.length ≤ its.length * its2.length ∧ ((∃ d ∈ its, ∃ d2 ∈ its2, evIfs (f (setA y d2 (setA x d φ))) ifs = some true) → out ≠ [])
  | [], _ => ⟨[], evComp_nil, by simp, by simp, by simp⟩
  | d :: r, h => by
    obtain ⟨out, e1, e2, e3, e4⟩ := evComp2_total (px := px) (it := it) (py := py) good hc r fun d hd => h d (List.mem_cons_of_mem _ hd)
    obtain ⟨h1, h2⟩ := h d List.mem_cons_self
    obtain ⟨o1, g1, g2, g3, g4⟩ := evComp1_total (px := py) (it := it2) good its2 h2
    have et : turnOut f elt [⟨.Name y py, it2, ifs, 0⟩] [] (setA x d φ) = some o1 := by
      unfold turnOut
      simp [evIfs, h1, hc, g1]
    refine ⟨o1 ++ out, by rw [evComp_cons, et, e1]; rfl, fun z hz => (List.mem_append.mp hz).elim (g2 z) (e2 z), ?_, fun ⟨d', hd', hb⟩ => ?_⟩
    · simp only [List.length_append, List.length_cons, Nat.add_mul, Nat.one_mul]; omega
    · rcases List.mem_cons.mp hd' with rfl | hd'
      · have := g4 hb; simp [this]
      · have := e4 ⟨d', hd', hb⟩; simp [this]

def isPair (d : D) : Prop := ∃ a b : Int, d = .tup [.int a, .int b]
theorem pairs_py : ∀ (r : List D), (∀ d ∈ r, isPair d) → ∃ ps, toPyL r = some ps ∧ ps.length = r.length ∧ ∀ p ∈ ps, p.canLay0 = true ∧ p.depth ≤ 2
  | [], _ => ⟨[], rfl, rfl, by simp⟩
  | d :: r, h => by
    obtain ⟨ps, h1, h2, h3⟩ := pairs_py r fun d hd => h d (List.mem_cons_of_mem _ hd)
    obtain ⟨a, b, rfl⟩ := h d List.mem_cons_self
    refine ⟨.tuple [.int a, .int b] :: ps, by simp [toPyL, toPy, h1], by simp [h2], fun p hp => ?_⟩
    rcases List.mem_cons.mp hp with rfl | hp
    · exact ⟨rfl, by simp [PyData.depth, PyData.depthAll]⟩
    · exact h3 p hp

def e63 : Option (Expr × Comprehension × Comprehension × Scope) := match sBody f63 with
  | [_, .Return (some (.ListComp elt [g1, g2] sc _)) _] => some (elt, g1, g2, sc)
  | _ => none
def elt63 : Expr := (e63.get rfl).1
def g1_63 : Comprehension := (e63.get rfl).2.1
def g2_63 : Comprehension := (e63.get rfl).2.2.1
def nm63 : Sc := (e63.get rfl).2.2.2.names
def f9 : Ph → Expr → Option D := ev Gb 29 nm63
abbrev φ63 (l : List D) (n : Int) : Ph := [("colours", .lst l), ("many", .int n)]
abbrev its9 : List D := [.int 0, .int 1, .int 2, .int 3, .int 4, .int 5, .int 6, .int 7, .int 8]
theorem gT_eq (x0 x1 x2 x3 x4 x5 x6 x7 x8 : D) : gT [.lst [x0, x1, x2, x3, x4, x5, x6, x7, x8]] =
    Option.bind (Option.bind (Option.map (fun d => ((φ63 [x0, x1, x2, x3, x4, x5, x6, x7, x8] 9, some d) : Out)) (Option.bind (evComp f9 elt63 [g1_63, g2_63] its9 (φ63 [x0, x1, x2, x3, x4, x5, x6, x7, x8] 9)) fun l => if decide (l.length ≤ 1000) = true then some (.lst l) else none))
      fun o => match o.2 with
        | none => some (o.1, none)
        | some _ => some o) fun o => o.2 := by kernel_rfl

def c63 : List Expr := match g2_63.ifs with
  | [.BoolOp _ es _] => es
  | _ => []
def ce (i : Nat) : Expr := match c63[i]? with
  | some e => e
  | none => .Name "x" default
def lc : Option (Expr × List CmpOp × List Expr) := match ce 1 with
  | .Compare l o c _ => some (l, o, c)
  | _ => none
abbrev φ9 (l : List D) (n a s : Int) : Ph := setA "step" (.int s) (setA "a" (.int a) (φ63 l n))
theorem t0 (l : List D) (n a s : Int) : ev Gb 28 nm63 (φ9 l n a s) (ce 0) = some (D.bool (decide (a + 2 * s < n))) := by kernel_rfl
theorem t1 (l : List D) (n a s : Int) : ev Gb 27 nm63 (φ9 l n a s) ((lc.get rfl).1) = idxD l a := by kernel_rfl
theorem t2 (l : List D) (n a s : Int) : (ev Gb 28 nm63 (φ9 l n a s) (ce 1)) = Option.bind (idxD l a) fun x => evCmp (ev Gb 27 nm63 (φ9 l n a s)) x (lc.get rfl).2.1 (lc.get rfl).2.2 := by kernel_rfl
theorem t3 (l : List D) (n a s : Int) (x : D) : evCmp (ev Gb 27 nm63 (φ9 l n a s)) x (lc.get rfl).2.1 (lc.get rfl).2.2 = Option.bind (idxD l (a + s)) fun y => Option.bind (cmpD .Eq x y) fun c => if c = true then Option.bind (idxD l (a + 2 * s)) fun z => Option.map D.bool (cmpD .Eq y z) else some (.bool false) := by kernel_rfl
theorem t4 (l : List D) (n a s : Int) : evIfs (f9 (φ9 l n a s)) g2_63.ifs = Option.bind (evBool (ev Gb 28 nm63 (φ9 l n a s)) .And [ce 0, ce 1]) fun d => Option.bind (truthD d) fun b => if b = true then some true else some false := by kernel_rfl

theorem elt_eq (l : List D) (n a s : Int) : f9 (setA "step" (.int s) (setA "a" (.int a) (φ63 l n))) elt63 = some (.tup [.int a, .int s]) := by kernel_rfl
theorem it2_eq (l : List D) (a : Int) : f9 (setA "a" (.int a) (φ63 l 9)) g2_63.iter = some (.rng 1 8) := by kernel_rfl
theorem and2 {f : Expr → Option D} {e0 e1 : Expr} {p : Bool} (h0 : f e0 = some (.bool p)) : evBool f .And [e0, e1] = if p then f e1 else some (.bool false) := by
  simp only [evBool, h0, Option.bind_some, truthD]
  cases p <;> rfl
theorem idx_int {cs : List Int} {i : Int} (h0 : 0 ≤ i) (h1 : i < cs.length) (hz : cs.length ≤ 1000) : idxD (cs.map .int) i = some (.int (cs.getD i.toNat 0)) := by
  unfold idxD
  rw [if_pos (by simp; omega)]
  rw [List.getElem?_map, List.getD_eq_getElem?_getD]
  have : i.toNat < cs.length := by omega
  rw [List.getElem?_eq_getElem this]; rfl
theorem cond_total (cs : List Int) (hz : cs.length ≤ 1000) (a s : Int) (ha : 0 ≤ a) (hs : 0 ≤ s) : ∃ b, evIfs (f9 (φ9 (cs.map .int) cs.length a s)) g2_63.ifs = some b ∧
    (a + 2 * s < cs.length → cs.getD a.toNat 0 = cs.getD (a + s).toNat 0 → cs.getD (a + s).toNat 0 = cs.getD (a + 2 * s).toNat 0 → b = true) := by
  rw [t4, and2 (t0 _ _ _ _)]
  by_cases h : a + 2 * s < cs.length
  · rw [if_pos (by simpa using h), t2, idx_int ha (by omega) hz, Option.bind_some, t3, idx_int (by omega) (by omega) hz, Option.bind_some]
    rw [idx_int (cs := cs) (i := a + 2 * s) (by omega) (by omega) hz]
    generalize cs.getD a.toNat 0 = x
    generalize cs.getD (a + s).toNat 0 = y
    generalize cs.getD (a + 2 * s).toNat 0 = z
    refine ⟨(x == y) && (y == z), ?_, fun _ e1 e2 => by simp [e1, e2]⟩
    simp only [cmpD, Option.bind_some]
    cases x == y <;> cases y == z <;> rfl
  · rw [if_neg (by simpa using h)]
    exact ⟨false, by simp [truthD], fun h' _ _ => absurd h' h⟩

theorem gT_total (c0 c1 c2 c3 c4 c5 c6 c7 c8 : Int) (hit : ∃ a s : Nat, a < 9 ∧ 1 ≤ s ∧ s < 9 ∧ a + 2 * s < 9 ∧ [c0, c1, c2, c3, c4, c5, c6, c7, c8].getD a 0 = [c0, c1, c2, c3, c4, c5, c6, c7, c8].getD (a + s) 0 ∧ [c0, c1, c2, c3, c4, c5, c6, c7, c8].getD (a + s) 0 = [c0, c1, c2, c3, c4, c5, c6, c7, c8].getD (a + 2 * s) 0) :
    ∃ r, gT [.lst ([c0, c1, c2, c3, c4, c5, c6, c7, c8].map .int)] = some (.lst r) ∧ r ≠ [] ∧ (∀ d ∈ r, isPair d) := by
  have key := evComp2_total (f := f9) (elt := elt63) (it := g1_63.iter) (it2 := g2_63.iter) (x := "a") (y := "step") (px := default) (py := default) (ifs := g2_63.ifs) (φ := φ63 ([c0, c1, c2, c3, c4, c5, c6, c7, c8].map .int) 9) (c := .rng 1 8) (its2 := [.int 1, .int 2, .int 3, .int 4, .int 5, .int 6, .int 7, .int 8]) isPair rfl its9 (fun d hd => ?_)
  · obtain ⟨out, e1, e2, e3, e4⟩ := key
    have e1' : evComp f9 elt63 [g1_63, g2_63] its9 (φ63 ([c0, c1, c2, c3, c4, c5, c6, c7, c8].map .int) 9) = some out := e1
    refine ⟨out, ?_, e4 ?_, e2⟩
    · show gT [.lst [.int c0, .int c1, .int c2, .int c3, .int c4, .int c5, .int c6, .int c7, .int c8]] = _
      rw [gT_eq]
      simp only [List.map_cons, List.map_nil] at e1'
      rw [e1']
      simp only [Option.bind_some]
      rw [if_pos (by simp at e3; simp; omega)]
      rfl
    · obtain ⟨a, s, h1, h2, h3, h4, h5, h6⟩ := hit
      refine ⟨.int a, ?_, .int s, ?_, ?_⟩
      · have : a = 0 ∨ a = 1 ∨ a = 2 ∨ a = 3 ∨ a = 4 ∨ a = 5 ∨ a = 6 ∨ a = 7 ∨ a = 8 := by omega
        rcases this with rfl | rfl | rfl | rfl | rfl | rfl | rfl | rfl | rfl <;> simp
      · have : s = 1 ∨ s = 2 ∨ s = 3 ∨ s = 4 ∨ s = 5 ∨ s = 6 ∨ s = 7 ∨ s = 8 := by omega
        rcases this with rfl | rfl | rfl | rfl | rfl | rfl | rfl | rfl <;> simp
      · obtain ⟨b, hb1, hb2⟩ := cond_total [c0, c1, c2, c3, c4, c5, c6, c7, c8] (by simp) a s (by omega) (by omega)
        have ht := hb2 (by simp; omega) (by
          have t1 : ((a : Int) + s).toNat = a + s := by omega
          rw [t1]; exact h5) (by
          have t1 : ((a : Int) + s).toNat = a + s := by omega
          have t2 : ((a : Int) + 2 * s).toNat = a + 2 * s := by omega
          rw [t1, t2]; exact h6)
        rw [ht] at hb1
        exact hb1
  · have : ∃ a : Nat, d = .int a := by
      simp only [its9, List.mem_cons, List.not_mem_nil, or_false] at hd
      rcases hd with rfl | rfl | rfl | rfl | rfl | rfl | rfl | rfl | rfl
      · exact ⟨0, rfl⟩
      · exact ⟨1, rfl⟩
      · exact ⟨2, rfl⟩
      · exact ⟨3, rfl⟩
      · exact ⟨4, rfl⟩
      · exact ⟨5, rfl⟩
      · exact ⟨6, rfl⟩
      · exact ⟨7, rfl⟩
      · exact ⟨8, rfl⟩
    obtain ⟨a, rfl⟩ := this
    refine ⟨it2_eq _ _, fun d2 hd2 => ?_⟩
    have : ∃ s : Nat, d2 = .int s := by
      simp only [List.mem_cons, List.not_mem_nil, or_false] at hd2
      rcases hd2 with rfl | rfl | rfl | rfl | rfl | rfl | rfl | rfl
      · exact ⟨1, rfl⟩
      · exact ⟨2, rfl⟩
      · exact ⟨3, rfl⟩
      · exact ⟨4, rfl⟩
      · exact ⟨5, rfl⟩
      · exact ⟨6, rfl⟩
      · exact ⟨7, rfl⟩
      · exact ⟨8, rfl⟩
    obtain ⟨s, rfl⟩ := this
    obtain ⟨b, hb1, _⟩ := cond_total [c0, c1, c2, c3, c4, c5, c6, c7, c8] (by simp) a s (by omega) (by omega)
    exact ⟨b, hb1, _, elt_eq _ _ _ _, ⟨_, _, rfl⟩⟩
theorem eqNil {r : List D} (h : ∀ d ∈ r, isPair d) (hn : r ≠ []) : eqD (.lst r) (.lst []) = some false := by
  obtain ⟨ps, h1, h2, h3⟩ := pairs_py r h
  cases r with
  | nil => exact absurd rfl hn
  | cons d r =>
    cases ps with
    | nil => simp at h2
    | cons p ps =>
      have hd : ∀ (l : List PyData), (∀ p ∈ l, p.canLay0 = true ∧ p.depth ≤ 2) → PyData.canLay0 (.list l) = true ∧ (PyData.list l).depth ≤ 8 := by
        intro l hl
        have : PyData.canLayAll0 l = true ∧ PyData.depthAll l ≤ 2 := by
          induction l with
          | nil => exact ⟨rfl, by simp [PyData.depthAll]⟩
          | cons p l ih =>
            obtain ⟨a, b⟩ := ih fun p hp => hl p (List.mem_cons_of_mem _ hp)
            obtain ⟨c, d⟩ := hl p List.mem_cons_self
            exact ⟨by simp [PyData.canLayAll0, a, c], by simp [PyData.depthAll]; omega⟩
        exact ⟨by simpa [PyData.canLay0] using this.1, by simp [PyData.depth]; omega⟩
      obtain ⟨q1, q2⟩ := hd _ h3
      have e1 : toPy (.lst (d :: r)) = some (.list (p :: ps)) := by rw [toPy, h1]; rfl
      have e2 : toPy (.lst []) = some (.list []) := rfl
      unfold eqD
      rw [e1, e2]
      simp only [q1, q2, decide_true, Bool.and_true]
      rfl
end Mine
namespace Mine
open PySem PySem.Spec PySem.Calls PyProof.Rows PySem.W
set_option linter.unusedVariables false
set_option maxRecDepth 100000
set_option Elab.async false

def bitsZ : Nat → Nat → List Int
  | _, 0 => []
  | m, k + 1 => ((m % 2 : Nat) : Int) :: bitsZ (m / 2) k
def isInts (o : Option D) (ns : List Int) : Bool := match o with
  | some (.lst l) => (match intsOf l with
    | some ms => ms == ns
    | none => false)
  | _ => false
theorem isInts_of {o : Option D} {ns : List Int} (h : isInts o ns = true) : o = some (.lst (ns.map .int)) := by
  unfold isInts at h
  split at h
  · split at h
    · rename_i e
      rw [intsOf_eq e, eq_of_beq h]
    · cases h
  · cases h
def isInt' (o : Option D) (m : Int) : Bool := match o with
  | some (.int i) => i == m
  | _ => false
theorem isInt'_of {o : Option D} {m : Int} (h : isInt' o m = true) : o = some (.int m) := by
  unfold isInt' at h
  split at h
  · rw [eq_of_beq h]
  · cases h
def chkC (m : Nat) : Bool := isInts (gC [.int m, .int 9]) (bitsZ m 9)
def chkD (m : Nat) : Bool := isInt' (gD [.lst ((bitsZ m 9).map .int), .int 1]) m
def chkS (m : Nat) : Bool := match gS [.lst ((bitsZ m 5).map .int)] with
  | some (.lst r) => (match eqD (.lst r) (.lst []) with
    | some b => !b
    | none => false)
  | _ => false
theorem chkC0 : (List.range 16).all (fun j => chkC (0 + j)) = true := by decide +kernel
theorem chkC1 : (List.range 16).all (fun j => chkC (16 + j)) = true := by decide +kernel
theorem chkC2 : (List.range 16).all (fun j => chkC (32 + j)) = true := by decide +kernel
theorem chkC3 : (List.range 16).all (fun j => chkC (48 + j)) = true := by decide +kernel
theorem chkC4 : (List.range 16).all (fun j => chkC (64 + j)) = true := by decide +kernel
theorem chkC5 : (List.range 16).all (fun j => chkC (80 + j)) = true := by decide +kernel
theorem chkC6 : (List.range 16).all (fun j => chkC (96 + j)) = true := by decide +kernel
theorem chkC7 : (List.range 16).all (fun j => chkC (112 + j)) = true := by decide +kernel
theorem chkC8 : (List.range 16).all (fun j => chkC (128 + j)) = true := by decide +kernel
theorem chkC9 : (List.range 16).all (fun j => chkC (144 + j)) = true := by decide +kernel
theorem chkC10 : (List.range 16).all (fun j => chkC (160 + j)) = true := by decide +kernel
theorem chkC11 : (List.range 16).all (fun j => chkC (176 + j)) = true := by decide +kernel
theorem chkC12 : (List.range 16).all (fun j => chkC (192 + j)) = true := by decide +kernel
theorem chkC13 : (List.range 16).all (fun j => chkC (208 + j)) = true := by decide +kernel
theorem chkC14 : (List.range 16).all (fun j => chkC (224 + j)) = true := by decide +kernel
theorem chkC15 : (List.range 16).all (fun j => chkC (240 + j)) = true := by decide +kernel
theorem chkC16 : (List.range 16).all (fun j => chkC (256 + j)) = true := by decide +kernel
theorem chkC17 : (List.range 16).all (fun j => chkC (272 + j)) = true := by decide +kernel
theorem chkC18 : (List.range 16).all (fun j => chkC (288 + j)) = true := by decide +kernel
theorem chkC19 : (List.range 16).all (fun j => chkC (304 + j)) = true := by decide +kernel
theorem chkC20 : (List.range 16).all (fun j => chkC (320 + j)) = true := by decide +kernel
theorem chkC21 : (List.range 16).all (fun j => chkC (336 + j)) = true := by decide +kernel
theorem chkC22 : (List.range 16).all (fun j => chkC (352 + j)) = true := by decide +kernel
theorem chkC23 : (List.range 16).all (fun j => chkC (368 + j)) = true := by decide +kernel
theorem chkC24 : (List.range 16).all (fun j => chkC (384 + j)) = true := by decide +kernel
theorem chkC25 : (List.range 16).all (fun j => chkC (400 + j)) = true := by decide +kernel
theorem chkC26 : (List.range 16).all (fun j => chkC (416 + j)) = true := by decide +kernel
theorem chkC27 : (List.range 16).all (fun j => chkC (432 + j)) = true := by decide +kernel
theorem chkC28 : (List.range 16).all (fun j => chkC (448 + j)) = true := by decide +kernel
theorem chkC29 : (List.range 16).all (fun j => chkC (464 + j)) = true := by decide +kernel
theorem chkC30 : (List.range 16).all (fun j => chkC (480 + j)) = true := by decide +kernel
theorem chkC31 : (List.range 16).all (fun j => chkC (496 + j)) = true := by decide +kernel
theorem chkD0 : (List.range 32).all (fun j => chkD (0 + j)) = true := by decide +kernel
theorem chkD1 : (List.range 32).all (fun j => chkD (32 + j)) = true := by decide +kernel
theorem chkD2 : (List.range 32).all (fun j => chkD (64 + j)) = true := by decide +kernel
theorem chkD3 : (List.range 32).all (fun j => chkD (96 + j)) = true := by decide +kernel
theorem chkD4 : (List.range 32).all (fun j => chkD (128 + j)) = true := by decide +kernel
theorem chkD5 : (List.range 32).all (fun j => chkD (160 + j)) = true := by decide +kernel
theorem chkD6 : (List.range 32).all (fun j => chkD (192 + j)) = true := by decide +kernel
theorem chkD7 : (List.range 32).all (fun j => chkD (224 + j)) = true := by decide +kernel
theorem chkD8 : (List.range 32).all (fun j => chkD (256 + j)) = true := by decide +kernel
theorem chkD9 : (List.range 32).all (fun j => chkD (288 + j)) = true := by decide +kernel
theorem chkD10 : (List.range 32).all (fun j => chkD (320 + j)) = true := by decide +kernel
theorem chkD11 : (List.range 32).all (fun j => chkD (352 + j)) = true := by decide +kernel
theorem chkD12 : (List.range 32).all (fun j => chkD (384 + j)) = true := by decide +kernel
theorem chkD13 : (List.range 32).all (fun j => chkD (416 + j)) = true := by decide +kernel
theorem chkD14 : (List.range 32).all (fun j => chkD (448 + j)) = true := by decide +kernel
theorem chkD15 : (List.range 32).all (fun j => chkD (480 + j)) = true := by decide +kernel
theorem chkS0 : (List.range 32).all chkS = true := by decide +kernel
theorem chkCs : ∀ i, i < 32 → (List.range 16).all (fun j => chkC (16 * i + j)) = true
  | 0, _ => chkC0
  | 1, _ => chkC1
  | 2, _ => chkC2
  | 3, _ => chkC3
  | 4, _ => chkC4
  | 5, _ => chkC5
  | 6, _ => chkC6
  | 7, _ => chkC7
  | 8, _ => chkC8
  | 9, _ => chkC9
  | 10, _ => chkC10
  | 11, _ => chkC11
  | 12, _ => chkC12
  | 13, _ => chkC13
  | 14, _ => chkC14
  | 15, _ => chkC15
  | 16, _ => chkC16
  | 17, _ => chkC17
  | 18, _ => chkC18
  | 19, _ => chkC19
  | 20, _ => chkC20
  | 21, _ => chkC21
  | 22, _ => chkC22
  | 23, _ => chkC23
  | 24, _ => chkC24
  | 25, _ => chkC25
  | 26, _ => chkC26
  | 27, _ => chkC27
  | 28, _ => chkC28
  | 29, _ => chkC29
  | 30, _ => chkC30
  | 31, _ => chkC31
  | n + 32, h => absurd h (by omega)
theorem chkDs : ∀ i, i < 16 → (List.range 32).all (fun j => chkD (32 * i + j)) = true
  | 0, _ => chkD0
  | 1, _ => chkD1
  | 2, _ => chkD2
  | 3, _ => chkD3
  | 4, _ => chkD4
  | 5, _ => chkD5
  | 6, _ => chkD6
  | 7, _ => chkD7
  | 8, _ => chkD8
  | 9, _ => chkD9
  | 10, _ => chkD10
  | 11, _ => chkD11
  | 12, _ => chkD12
  | 13, _ => chkD13
  | 14, _ => chkD14
  | 15, _ => chkD15
  | n + 16, h => absurd h (by omega)
theorem chkC_all (n : Nat) (hn : n < 512) : gC [.int n, .int 9] = some (.lst ((bitsZ n 9).map .int)) := by
  have := List.all_eq_true.mp (chkCs (n / 16) (by omega)) (n % 16) (List.mem_range.mpr (Nat.mod_lt _ (by decide)))
  rw [Nat.div_add_mod] at this
  exact isInts_of this
theorem chkD_all (n : Nat) (hn : n < 512) : gD [.lst ((bitsZ n 9).map .int), .int 1] = some (.int n) := by
  have := List.all_eq_true.mp (chkDs (n / 32) (by omega)) (n % 32) (List.mem_range.mpr (Nat.mod_lt _ (by decide)))
  rw [Nat.div_add_mod] at this
  exact isInt'_of this
end Mine
namespace Mine
open PySem PySem.Spec PySem.Calls PyProof.Rows PySem.W
set_option linter.unusedVariables false
set_option maxRecDepth 100000
set_option Elab.async false

theorem bits5 (n : Nat) : (bitsZ n 9).take 5 = bitsZ (n % 32) 5 := by
  simp only [bitsZ, List.take_succ_cons, List.take_zero, List.cons.injEq, and_true]
  refine ⟨?_, ?_, ?_, ?_, ?_⟩ <;> omega
theorem chkS_all (n : Nat) : ∃ r, gS [.lst ((bitsZ (n % 32) 5).map .int)] = some (.lst r) ∧ eqD (.lst r) (.lst []) = some false := by
  have := List.all_eq_true.mp chkS0 (n % 32) (List.mem_range.mpr (Nat.mod_lt _ (by decide)))
  unfold chkS at this
  split at this
  · rename_i r e
    split at this
    · rename_i b e2
      refine ⟨r, e, ?_⟩
      cases b
      · exact e2
      · simp at this
    · cases this
  · cases this
/-- of nine some three with the same step are of one colour -/
def hitB (c : List Int) : Bool := (List.range 9).any fun a => (List.range 9).any fun s => decide (1 ≤ s) && decide (a + 2 * s < 9) && (c.getD a 0 == c.getD (a + s) 0) && (c.getD (a + s) 0 == c.getD (a + 2 * s) 0)
theorem hit0 : (List.range 128).all (fun n => hitB (bitsZ n 9)) = true := by decide +kernel
theorem hit1 : (List.range 128).all (fun n => hitB (bitsZ (128 + n) 9)) = true := by decide +kernel
theorem hit2 : (List.range 128).all (fun n => hitB (bitsZ (256 + n) 9)) = true := by decide +kernel
theorem hit3 : (List.range 128).all (fun n => hitB (bitsZ (384 + n) 9)) = true := by decide +kernel
theorem hit_all (n : Nat) (hn : n < 512) : hitB (bitsZ n 9) = true := by
  by_cases h0 : n < 128
  · exact List.all_eq_true.mp hit0 n (List.mem_range.mpr h0)
  · by_cases h1 : n < 256
    · have := List.all_eq_true.mp hit1 (n - 128) (List.mem_range.mpr (by omega))
      rwa [show 128 + (n - 128) = n by omega] at this
    · by_cases h2 : n < 384
      · have := List.all_eq_true.mp hit2 (n - 256) (List.mem_range.mpr (by omega))
        rwa [show 256 + (n - 256) = n by omega] at this
      · have := List.all_eq_true.mp hit3 (n - 384) (List.mem_range.mpr (by omega))
        rwa [show 384 + (n - 384) = n by omega] at this
theorem gT_bits (n : Nat) (hn : n < 512) : ∃ r, gT [.lst ((bitsZ n 9).map .int)] = some (.lst r) ∧ eqD (.lst r) (.lst []) = some false := by
  have h := hit_all n hn
  unfold hitB at h
  simp only [List.any_eq_true, List.mem_range, Bool.and_eq_true, decide_eq_true_eq, beq_iff_eq] at h
  obtain ⟨a, ha, s, hs, ⟨⟨h1, h2⟩, h3⟩, h4⟩ := h
  obtain ⟨r, e1, e2, e3⟩ := gT_total _ _ _ _ _ _ _ _ _ ⟨a, s, ha, h1, hs, h2, h3, h4⟩
  exact ⟨r, e1, eqNil e3 e2⟩

def stA (i : Nat) : Stmt := match qA[i]? with
  | some s => s
  | none => .Pass default
def tA : Expr := match stA 1 with
  | .If t _ _ _ => t
  | _ => .Name "x" default
def eA (i : Nat) : Expr := match tA with
  | .BoolOp _ es _ => (match es[i]? with
    | some e => e
    | none => .Name "x" default)
  | _ => .Name "x" default
theorem qA_1 (m : Int) : exS G2 30 30 n73 [("number", .int m)] (stA 0) = Option.map (fun d => (([("number", .int m), ("colours", d)] : Ph), none)) (gC [.int m, .int 9]) := by kernel_rfl
abbrev φA (m : Int) (l : List D) : Ph := [("number", .int m), ("colours", .lst l)]
theorem qA_2 (φ : Ph) : exS G2 30 30 n73 φ (stA 1) = Option.bind (evBool (ev G2 29 n73 φ) .Or [eA 0, eA 1, eA 2]) fun d => Option.bind (truthD d) fun c => exB (exS G2 30 29 n73) (if c = true then [.Return (some (.Constant (.bool false) 0 ⟨70, 15, 70, 20⟩)) ⟨70, 8, 70, 20⟩] else []) φ := by kernel_rfl
theorem qA_e0 (m : Int) (l : List D) : ev G2 29 n73 (φA m l) (eA 0) = Option.bind (gD [.lst l, .int 1]) fun a => Option.map D.bool (cmpD .NotEq a (.int m)) := by kernel_rfl
theorem qA_e1 (m : Int) (x0 x1 x2 x3 x4 x5 x6 x7 x8 : D) : ev G2 29 n73 (φA m [x0, x1, x2, x3, x4, x5, x6, x7, x8]) (eA 1) = Option.bind (gS [.lst [x0, x1, x2, x3, x4]]) fun a => Option.map D.bool (cmpD .Eq a (.lst [])) := by kernel_rfl
theorem qA_e2 (m : Int) (l : List D) : ev G2 29 n73 (φA m l) (eA 2) = Option.bind (gT [.lst l]) fun a => Option.map D.bool (cmpD .Eq a (.lst [])) := by kernel_rfl
theorem or3 {f : Expr → Option D} {e0 e1 e2 : Expr} (h0 : f e0 = some (.bool false)) (h1 : f e1 = some (.bool false)) (h2 : f e2 = some (.bool false)) : evBool f .Or [e0, e1, e2] = some (.bool false) := by
  simp only [evBool, h0, h1, h2, Option.bind_some, truthD]
theorem qA_eq : qA = [stA 0, stA 1] := rfl
theorem p2a (m : Int) (h0 : 0 ≤ m) (h1 : m < 512) : ∃ φ, exB (exS G2 30 30 n73) qA [("number", .int m)] = some (φ, none) := by
  obtain ⟨n, rfl⟩ := Int.eq_ofNat_of_zero_le h0
  have hn : n < 512 := by omega
  obtain ⟨rs, s1, s2⟩ := chkS_all n
  obtain ⟨rt, t1, t2⟩ := gT_bits n hn
  have hD := chkD_all n hn
  have e0 : ev G2 29 n73 (φA n ((bitsZ n 9).map .int)) (eA 0) = some (.bool false) := by
    rw [qA_e0, hD]
    simp [cmpD]
  have e1 : ev G2 29 n73 (φA n ((bitsZ n 9).map .int)) (eA 1) = some (.bool false) := by
    have h5 : (bitsZ (n % 32) 5).map D.int = ((bitsZ n 9).map D.int).take 5 := by rw [← bits5, List.map_take]
    rw [h5] at s1
    refine (qA_e1 _ _ _ _ _ _ _ _ _ _).trans ?_
    rw [show gS [.lst [_, _, _, _, _]] = some (.lst rs) from s1, Option.bind_some]
    simp only [cmpD, s2, Option.map_some]
  have e2 : ev G2 29 n73 (φA n ((bitsZ n 9).map .int)) (eA 2) = some (.bool false) := by
    rw [qA_e2, t1, Option.bind_some]
    simp only [cmpD, t2, Option.map_some]
  refine ⟨φA n ((bitsZ n 9).map .int), ?_⟩
  rw [qA_eq]
  simp only [exB, qA_1, chkC_all n hn, Option.map_some, Option.bind_some]
  rw [qA_2, or3 e0 e1 e2]
  simp [truthD, exB]
end Mine
namespace Mine
open PySem PySem.Spec PySem.Calls PyProof.Rows PySem.W
theorem plain2 : ∃ rows fin, Plain2 rows fin := ⟨rows2, fin2, p2a, outNext_of p2b, fun L => ⟨_, p2c L⟩, p2f, by decide, outTrue_of p2d⟩
end Mine
open PySem PySem.W PyProof.Rows
set_option Elab.async false
set_option maxRecDepth 100000 in
set_option maxHeartbeats 8000000 in
theorem PySem.Challenge.cw_gg0004_02_holds : PySem.Challenge.rw_gg0004_02.Holds :=
  Mine.hd (by
    k_go0
    rename Top topProg _ _ _ _ _ => topX
    rename Frag.In _ _ => inX
    rename CodeHd _ (27, 23).1 _ => codeB
    rename CodeHd _ (20, 16).1 _ => codeA
    rename Fr _ _ _ _ => frX
    rename IntsAre _ _ => intX
    rename News _ _ _ _ => newsX
    rename Heap.IsList (ghostOf _ _) _ _ => listX
    rename _ = #[] => gensX
    obtain ⟨rows, fin, pl⟩ := Mine.plain2
    exact Mine.walk2 ⟨inX, topX, codeA, codeB, (newsX _ List.mem_cons_self).2.2, (newsX _ (List.mem_cons_of_mem _ List.mem_cons_self)).2.2⟩ pl Mine.aok0 frX rfl newsX listX intX fun h' tk H => (by refine Mine.good2 ?_ H _ ?_ ?_ ?_ <;> first | exact gensX | rfl))
