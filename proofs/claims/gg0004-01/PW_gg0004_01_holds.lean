import PyProof.Rows.All
import Wide.All
import OpenK.AllK
import Wide.FinOn
import PySem.Challenge.RW_gg0004_01
namespace Mine
open PySem PySem.Spec PySem.Calls PyProof.Rows PySem.W
open Sem (wp)
set_option linter.unusedVariables false

/-- pure data -/
inductive D where
  | none
  | bool (b : Bool)
  | int (i : Int)
  | tup (l : List D)
  | lst (l : List D)
  | rng (a : Int) (n : Nat)
  | dct (ks : List (Int × Int)) (vs : List D)
  | itm (ks : List (Int × Int)) (vs : List D)
  | adr (a : Addr)

noncomputable abbrev tupO (vs : Array Value) (n : Nat) : Obj := { cls := .type "tuple", data := .seq vs n }
noncomputable abbrev lstO (vs : Array Value) (n : Nat) : Obj := { cls := .type "list", data := .seq vs n }

noncomputable abbrev dctO (es : Array DictEntry) (ep : Nat) : Obj := { cls := .type "dict", data := .dict es ep }
noncomputable abbrev itvO (d : Addr) : Obj := { cls := .type "dict_items", data := .fields #[.ref d] }
/-- the hash of a pair of ints -/
noncomputable def hsh (k : Int × Int) : Int := reduceHash (Builtin.Tuple.tupleHashOf [hashInt k.1, hashInt k.2])
/-- a dict's keys: tuples of two ints -/
noncomputable def KeysAt (X : Addr → Prop) (h : Heap) : List (Int × Int) → List DictEntry → Prop
  | [], es => es = []
  | k :: ks, es => ∃ e r, es = e :: r ∧ (e.hash = hsh k ∧ ∃ a n t u, e.key = .ref a ∧ ¬ X a ∧ h.get? a = some (tupO #[.int k.1 t, .int k.2 u] n)) ∧ KeysAt X h ks r

mutual
/-- in heap h the value v bears the data d, by objects outside X -/
noncomputable def Rp (X : Addr → Prop) (h : Heap) : D → Value → Prop
  | .none, v => v = .none
  | .bool b, v => v = .bool b
  | .int i, v => ∃ t, v = .int i t
  | .tup l, v => ∃ a vs n, v = .ref a ∧ ¬ X a ∧ h.get? a = some (tupO vs n) ∧ RpL X h l vs.toList
  | .lst l, v => ∃ a vs n, v = .ref a ∧ ¬ X a ∧ h.get? a = some (lstO vs n) ∧ RpL X h l vs.toList
  | .rng x n, v => ∃ a b t u t', v = .ref a ∧ ¬ X a ∧ IsRange h a x b 1 t u t' ∧ (b - x).toNat = n ∧ -1073741824 < b ∧ b < 1073741824
  | .dct ks l, v => ∃ a es ep, v = .ref a ∧ ¬ X a ∧ (a == sysModules) = false ∧ h.get? a = some (dctO es ep) ∧ ks.Nodup ∧ KeysAt X h ks es.toList ∧ RpL X h l (es.toList.map (·.val))
  | .itm ks l, v => ∃ u a es ep, v = .ref u ∧ ¬ X u ∧ h.get? u = some (itvO a) ∧ ¬ X a ∧ (a == sysModules) = false ∧ h.get? a = some (dctO es ep) ∧ ks.Nodup ∧ KeysAt X h ks es.toList ∧ RpL X h l (es.toList.map (·.val))
  | .adr a, v => v = .ref a
noncomputable def RpL (X : Addr → Prop) (h : Heap) : List D → List Value → Prop
  | [], vs => vs = []
  | d :: l, vs => ∃ v r, vs = v :: r ∧ Rp X h d v ∧ RpL X h l r
end

/-- all objects outside Y kept -/
noncomputable def Kp (Y : Addr → Prop) (h h' : Heap) : Prop := ∀ b o, ¬ Y b → h.get? b = some o → h'.get? b = some o

theorem Kp.refl {Y : Addr → Prop} {h : Heap} : Kp Y h h := fun _ _ _ e => e
theorem Kp.trans {Y : Addr → Prop} {h h' h'' : Heap} (a : Kp Y h h') (b : Kp Y h' h'') : Kp Y h h'' := fun c o n e => b c o n (a c o n e)
theorem Kp.mono {Y Y' : Addr → Prop} {h h' : Heap} (a : Kp Y h h') (s : ∀ b, Y b → Y' b) : Kp Y' h h' := fun c o n e => a c o (fun q => n (s c q)) e
theorem Kp.of {Y : Addr → Prop} {h h' : Heap} (k : ∀ b o, h.get? b = some o → h'.get? b = some o) : Kp Y h h' := fun c o _ e => k c o e
theorem Kp.push {Y : Addr → Prop} {h : Heap} (o : Obj) : Kp Y h (h.push o) := fun c _ _ e => Heap.get?_push_of_some _ e
theorem Kp.same {Y : Addr → Prop} {h h' : Heap} {a : Addr} (s : Heap.SameBut a h h') (ha : Y a) : Kp Y h h' := fun c o n e => (s.2 c fun q => n (q ▸ ha)).trans e

theorem KeysAt.kp {X Y : Addr → Prop} {h h' : Heap} (k : Kp Y h h') (s : ∀ b, Y b → X b) : ∀ {ks : List (Int × Int)} {es : List DictEntry}, KeysAt X h ks es → KeysAt X h' ks es
  | [], _, x => x
  | q :: ks, _, x => by
    obtain ⟨e, r, e1, ⟨e2, a, n, t, u, e3, hx, g⟩, y⟩ := x
    exact ⟨e, r, e1, ⟨e2, a, n, t, u, e3, hx, k a _ (fun z => hx (s a z)) g⟩, KeysAt.kp k s y⟩
theorem KeysAt.av {X X' : Addr → Prop} {h : Heap} (s : ∀ b o, h.get? b = some o → X' b → X b) : ∀ {ks : List (Int × Int)} {es : List DictEntry}, KeysAt X h ks es → KeysAt X' h ks es
  | [], _, x => x
  | q :: ks, _, x => by
    obtain ⟨e, r, e1, ⟨e2, a, n, t, u, e3, hx, g⟩, y⟩ := x
    exact ⟨e, r, e1, ⟨e2, a, n, t, u, e3, fun z => hx (s a _ g z), g⟩, KeysAt.av s y⟩
theorem KeysAt.length {X : Addr → Prop} {h : Heap} : ∀ {ks : List (Int × Int)} {es : List DictEntry}, KeysAt X h ks es → es.length = ks.length
  | [], _, x => by rw [show _ = [] from x]; rfl
  | q :: ks, _, x => by
    obtain ⟨e, r, rfl, _, y⟩ := x
    simp [KeysAt.length y]
theorem KeysAt.get {X : Addr → Prop} {h : Heap} : ∀ {ks : List (Int × Int)} {es : List DictEntry} {i : Nat} {k : Int × Int} {e : DictEntry}, KeysAt X h ks es → ks[i]? = some k → es[i]? = some e →
    e.hash = hsh k ∧ ∃ a n t u, e.key = .ref a ∧ ¬ X a ∧ h.get? a = some (tupO #[.int k.1 t, .int k.2 u] n)
  | [], _, i, k, e, _, e1, _ => by simp at e1
  | q :: ks, _, i, k, e, x, e1, e2 => by
    obtain ⟨e', r, rfl, z, y⟩ := x
    cases i with
    | zero => simp at e1 e2; subst e1 e2; exact z
    | succ i => simp at e1 e2; exact KeysAt.get y e1 e2

mutual
theorem Rp.kp {X Y : Addr → Prop} {h h' : Heap} (k : Kp Y h h') (s : ∀ b, Y b → X b) : ∀ {d : D} {v : Value}, Rp X h d v → Rp X h' d v
  | .none, _, x => x
  | .bool _, _, x => x
  | .int _, _, x => x
  | .tup l, _, x => by
    simp only [Rp] at x ⊢
    obtain ⟨a, vs, n, e, hx, g, r⟩ := x
    exact ⟨a, vs, n, e, hx, k a _ (fun q => hx (s a q)) g, RpL.kp k s r⟩
  | .lst l, _, x => by
    simp only [Rp] at x ⊢
    obtain ⟨a, vs, n, e, hx, g, r⟩ := x
    exact ⟨a, vs, n, e, hx, k a _ (fun q => hx (s a q)) g, RpL.kp k s r⟩
  | .rng _ _, _, x => by
    simp only [Rp] at x ⊢
    obtain ⟨a, b, t, u, t', e, hx, g, r⟩ := x
    exact ⟨a, b, t, u, t', e, hx, k a _ (fun q => hx (s a q)) g, r⟩
  | .dct ks l, _, x => by
    simp only [Rp] at x ⊢
    obtain ⟨a, es, ep, e, hx, hm, g, nd, y, r⟩ := x
    exact ⟨a, es, ep, e, hx, hm, k a _ (fun q => hx (s a q)) g, nd, y.kp k s, RpL.kp k s r⟩
  | .itm ks l, _, x => by
    simp only [Rp] at x ⊢
    obtain ⟨u, a, es, ep, e, hu, gu, hx, hm, g, nd, y, r⟩ := x
    exact ⟨u, a, es, ep, e, hu, k u _ (fun q => hu (s u q)) gu, hx, hm, k a _ (fun q => hx (s a q)) g, nd, y.kp k s, RpL.kp k s r⟩
  | .adr _, _, x => x
theorem RpL.kp {X Y : Addr → Prop} {h h' : Heap} (k : Kp Y h h') (s : ∀ b, Y b → X b) : ∀ {l : List D} {vs : List Value}, RpL X h l vs → RpL X h' l vs
  | [], _, x => x
  | d :: l, _, x => by
    simp only [RpL] at x ⊢
    obtain ⟨v, r, e, a, b⟩ := x
    exact ⟨v, r, e, Rp.kp k s a, RpL.kp k s b⟩
end

mutual
theorem Rp.av {X X' : Addr → Prop} {h : Heap} (s : ∀ b o, h.get? b = some o → X' b → X b) : ∀ {d : D} {v : Value}, Rp X h d v → Rp X' h d v
  | .none, _, x => x
  | .bool _, _, x => x
  | .int _, _, x => x
  | .tup l, _, x => by
    simp only [Rp] at x ⊢
    obtain ⟨a, vs, n, e, hx, g, r⟩ := x
    exact ⟨a, vs, n, e, fun q => hx (s a _ g q), g, RpL.av s r⟩
  | .lst l, _, x => by
    simp only [Rp] at x ⊢
    obtain ⟨a, vs, n, e, hx, g, r⟩ := x
    exact ⟨a, vs, n, e, fun q => hx (s a _ g q), g, RpL.av s r⟩
  | .rng _ _, _, x => by
    simp only [Rp] at x ⊢
    obtain ⟨a, b, t, u, t', e, hx, g, r⟩ := x
    exact ⟨a, b, t, u, t', e, fun q => hx (s a _ g q), g, r⟩
  | .dct ks l, _, x => by
    simp only [Rp] at x ⊢
    obtain ⟨a, es, ep, e, hx, hm, g, nd, y, r⟩ := x
    exact ⟨a, es, ep, e, fun q => hx (s a _ g q), hm, g, nd, y.av s, RpL.av s r⟩
  | .itm ks l, _, x => by
    simp only [Rp] at x ⊢
    obtain ⟨u, a, es, ep, e, hu, gu, hx, hm, g, nd, y, r⟩ := x
    exact ⟨u, a, es, ep, e, fun q => hu (s u _ gu q), gu, fun q => hx (s a _ g q), hm, g, nd, y.av s, RpL.av s r⟩
  | .adr _, _, x => x
theorem RpL.av {X X' : Addr → Prop} {h : Heap} (s : ∀ b o, h.get? b = some o → X' b → X b) : ∀ {l : List D} {vs : List Value}, RpL X h l vs → RpL X' h l vs
  | [], _, x => x
  | d :: l, _, x => by
    simp only [RpL] at x ⊢
    obtain ⟨v, r, e, a, b⟩ := x
    exact ⟨v, r, e, Rp.av s a, RpL.av s b⟩
end

theorem RpL.length {X : Addr → Prop} {h : Heap} : ∀ {l : List D} {vs : List Value}, RpL X h l vs → vs.length = l.length
  | [], _, x => by simp only [RpL] at x; rw [x]; rfl
  | d :: l, _, x => by
    simp only [RpL] at x
    obtain ⟨v, r, rfl, a, b⟩ := x
    simp [RpL.length b]
theorem RpL.append {X : Addr → Prop} {h : Heap} : ∀ {l l' : List D} {vs vs' : List Value}, RpL X h l vs → RpL X h l' vs' → RpL X h (l ++ l') (vs ++ vs')
  | [], _, _, _, x, y => by simp only [RpL] at x; subst x; exact y
  | d :: l, _, _, _, x, y => by
    simp only [RpL] at x
    obtain ⟨v, r, rfl, a, b⟩ := x
    simp only [List.cons_append, RpL]
    exact ⟨v, _, rfl, a, RpL.append b y⟩
theorem RpL.get {X : Addr → Prop} {h : Heap} : ∀ {l : List D} {vs : List Value} {i : Nat} {d : D}, RpL X h l vs → l[i]? = some d → ∃ v, vs[i]? = some v ∧ Rp X h d v
  | [], _, i, d, _, e => by simp at e
  | c :: l, _, i, d, x, e => by
    simp only [RpL] at x
    obtain ⟨v, r, rfl, a, b⟩ := x
    cases i with
    | zero => simp at e; subst e; exact ⟨v, rfl, a⟩
    | succ i => simp at e; obtain ⟨u, hu, hr⟩ := RpL.get b e; exact ⟨u, by simpa using hu, hr⟩
theorem RpL.get' {X : Addr → Prop} {h : Heap} {l : List D} {vs : List Value} {i : Nat} {v : Value} (x : RpL X h l vs) (e : vs[i]? = some v) : ∃ d, l[i]? = some d ∧ Rp X h d v := by
  have hi : i < vs.length := (List.getElem?_eq_some_iff.mp e).1
  rw [x.length] at hi
  obtain ⟨u, hu, hr⟩ := x.get (List.getElem?_eq_getElem hi)
  rw [e] at hu
  cases hu
  exact ⟨_, List.getElem?_eq_getElem hi, hr⟩
theorem RpL.one {X : Addr → Prop} {h : Heap} {d : D} {v : Value} (x : Rp X h d v) : RpL X h [d] [v] := by
  simp only [RpL]; exact ⟨v, [], rfl, x, rfl⟩
theorem RpL.of_get {X : Addr → Prop} {h : Heap} : ∀ {l : List D} {vs : List Value}, vs.length = l.length → (∀ (i : Nat) d v, l[i]? = some d → vs[i]? = some v → Rp X h d v) → RpL X h l vs
  | [], vs, e, _ => by simp only [RpL]; exact List.length_eq_zero_iff.mp e
  | d :: l, [], e, _ => by simp at e
  | d :: l, v :: vs, e, k => by
    simp only [RpL]
    exact ⟨v, vs, rfl, k 0 d v rfl rfl, RpL.of_get (by simpa using e) fun i d' v' h1 h2 => k (i + 1) d' v' (by simpa using h1) (by simpa using h2)⟩
theorem RpL.take {X : Addr → Prop} {h : Heap} {l : List D} {vs : List Value} (x : RpL X h l vs) (n : Nat) : RpL X h (l.take n) (vs.take n) := by
  refine RpL.of_get (by simp [x.length]) fun i d v h1 h2 => ?_
  rw [List.getElem?_take] at h1 h2
  split at h1
  · rename_i hi
    rw [if_pos hi] at h2
    obtain ⟨u, hu, hr⟩ := x.get h1
    rw [h2] at hu; cases hu; exact hr
  · cases h1
theorem RpL.reverse {X : Addr → Prop} {h : Heap} : ∀ {l : List D} {vs : List Value}, RpL X h l vs → RpL X h l.reverse vs.reverse
  | [], _, x => by simp only [RpL] at x; subst x; simp [RpL]
  | d :: l, _, x => by
    simp only [RpL] at x
    obtain ⟨v, r, rfl, a, b⟩ := x
    simp only [List.reverse_cons]
    exact b.reverse.append (.one a)

set_option genInjectivity false in
set_option genSizeOfSpec false in
/-- what is fixed: the program, the world, the base heap (the two tables hidden), the globals, the code tables -/
structure Cfg where
  prog : Program
  w : World
  B : Heap
  mg : Str → Option Value
  mb : Str → Option Value
  /-- code object, its table, place and qualname of the def within -/
  tabs : List (Addr × Addr × Pos × Str)

noncomputable def Cfg.Tb (C : Cfg) (b : Addr) : Prop := ∃ q ∈ C.tabs, q.2.1 = b

noncomputable def TabOk (h : Heap) (q : Addr × Addr × Pos × Str) : Prop :=
  ∃ ps, h.get? q.2.1 = some (tabObj ps) ∧ TriplesOk ps.toList ∧ (codeAmong q.2.2.1 ps.toList = none ∨ ∃ c', codeAmong q.2.2.1 ps.toList = some (.ref c') ∧ h.CodeRec (.ref c') q.2.2.2)

structure HOk (C : Cfg) (h : Heap) : Prop where
  base : ∀ b o, C.B.get? b = some o → h.get? b = some o
  tabs : ∀ q ∈ C.tabs, TabOk h q

/-- an object that a code table's facts may hang on -/
noncomputable def JA (h : Heap) (b : Addr) : Prop := ∃ o vs, h.get? b = some o ∧ o.data = .fields vs ∧ (o.cls = .none ∨ ∃ s t, vs[1]? = some (.str s t))

theorem HOk.step {C : Cfg} {Y : Addr → Prop} {h h' : Heap} (H : HOk C h) (k : Kp Y h h') (n : ∀ b, Y b → C.B.get? b = none ∧ ¬ JA h b) : HOk C h' := by
  refine ⟨fun b o e => k b o (fun q => by rw [(n b q).1] at e; cases e) (H.base b o e), fun q hq => ?_⟩
  obtain ⟨ps, e, t, r⟩ := H.tabs q hq
  refine ⟨ps, k _ _ (fun y => (n _ y).2 ⟨_, ps, e, rfl, .inl rfl⟩) e, t, r.imp id fun ⟨c', e1, c, o, vs, tk, e2, e3, e4, e5⟩ => ⟨c', e1, c, o, vs, tk, e2, k _ _ (fun y => (n _ y).2 ⟨_, vs, e3, e4, .inr ⟨_, _, e5⟩⟩) e3, e4, e5⟩⟩
theorem HOk.keeps {C : Cfg} {h h' : Heap} (H : HOk C h) (k : ∀ b o, h.get? b = some o → h'.get? b = some o) : HOk C h' :=
  H.step (Y := fun _ => False) (fun b o _ e => k b o e) fun _ q => q.elim
theorem HOk.push {C : Cfg} {h : Heap} (H : HOk C h) (o : Obj) : HOk C (h.push o) := H.keeps fun _ _ e => Heap.get?_push_of_some _ e
theorem HOk.same {C : Cfg} {h h' : Heap} {a : Addr} (H : HOk C h) (s : Heap.SameBut a h h') (hb : C.B.get? a = none) (hj : ¬ JA h a) : HOk C h' :=
  H.step (Y := fun b => b = a) (fun b o' n e => (s.2 b n).trans e) fun b q => by subst q; exact ⟨hb, hj⟩
theorem nja_data {h : Heap} {a : Addr} {o : Obj} (e : h.get? a = some o) (hd : ∀ vs, o.data ≠ .fields vs) : ¬ JA h a := fun ⟨o', vs, e', d, _⟩ => by
  rw [e] at e'; cases e'; exact hd vs d
theorem HOk.baseNone {C : Cfg} {h : Heap} {a : Addr} (H : HOk C h) (e : h.get? a = none) : C.B.get? a = none := by
  cases q : C.B.get? a with
  | none => rfl
  | some o => have := H.base a o q; rw [e] at this; cases this
theorem get_size (h : Heap) : h.get? h.objs.size = none := by
  cases q : h.get? h.objs.size with
  | none => rfl
  | some o => exact absurd (Heap.lt_size q) (Nat.lt_irrefl _)

theorem HOk.tbEx {C : Cfg} {h : Heap} (H : HOk C h) {b : Addr} (t : C.Tb b) : ∃ o, h.get? b = some o := by
  obtain ⟨q, hq, rfl⟩ := t
  obtain ⟨ps, e, _⟩ := H.tabs q hq
  exact ⟨_, e⟩

/-- X: holds the tables; all its objects are there -/
structure XOk (C : Cfg) (X : Addr → Prop) (h : Heap) : Prop where
  tb : ∀ b, C.Tb b → X b
  ex : ∀ b, X b → ∃ o, h.get? b = some o
  bs : ∀ b o, C.B.get? b = some o → X b
theorem XOk.kp {C : Cfg} {X : Addr → Prop} {h h' : Heap} (x : XOk C X h) (H : HOk C h') (k : Kp C.Tb h h') : XOk C X h' := by
  refine ⟨x.tb, fun b hb => ?_, x.bs⟩
  by_cases t : C.Tb b
  · exact H.tbEx t
  · obtain ⟨o, e⟩ := x.ex b hb
    exact ⟨o, k b o t e⟩
theorem XOk.via {C : Cfg} {X Y : Addr → Prop} {h h' : Heap} (x : XOk C X h) (H : HOk C h') (k : Kp Y h h') (n : ∀ b, Y b → X b → C.Tb b ∨ ∃ o, h'.get? b = some o) : XOk C X h' := by
  refine ⟨x.tb, fun b hb => ?_, x.bs⟩
  by_cases t : Y b
  · exact (n b t hb).elim (fun q => H.tbEx q) id
  · obtain ⟨o, e⟩ := x.ex b hb
    exact ⟨o, k b o t e⟩
theorem XOk.fresh {C : Cfg} {X : Addr → Prop} {h : Heap} (x : XOk C X h) : ¬ X h.objs.size := fun q => by
  obtain ⟨o, e⟩ := x.ex _ q
  exact Nat.lt_irrefl _ (Heap.lt_size e)

/-- what is asked of the stack around -/
structure Aok (k : Nat) (A : Around) : Prop where
  handled : A.handled = none
  depth : A.depth + k < recursionLimit
  units : A.units + 10 * k + 10 < cLine
theorem Aok.mono {k k' : Nat} {A : Around} (x : Aok k A) (h : k' ≤ k) : Aok k' A := ⟨x.handled, by have := x.depth; omega, by have := x.units; omega⟩
theorem Aok.deeper {k : Nat} {A : Around} {env : Env} (x : Aok (k + 1) A) : Aok k (A.deeper env) :=
  ⟨x.handled, by have := x.depth; show A.depth + 1 + k < _; omega, by have := x.units; show A.units + 3 + 10 * k + 10 < _; omega⟩
theorem Aok.lt {k : Nat} {A : Around} (x : Aok k A) : A.units < cLine := by have := x.units; omega

end Mine
namespace Mine
open PySem PySem.Spec PySem.Calls PyProof.Rows PySem.W
set_option linter.unusedVariables false
set_option maxRecDepth 100000

noncomputable abbrev kitO (d : Addr) (i n ep : Nat) : Obj := { cls := .type "dict_keyiterator", data := .fields #[.ref d, .int i 0, .int n 0, .int ep 0] }

section
variable {prog : Program} {w : World} {A : Around} {E : Value → Shared → Prop} {s : Shared}
theorem dctO_typeIs {d : Addr} {es : Array DictEntry} {ep : Nat} (g : s.heap.get? d = some (dctO es ep)) : s.TypeIs (.ref d) "dict" := ⟨_, g, rfl⟩

/-- iter(d) -/
theorem dctIter_ok {d : Addr} {es : Array DictEntry} {ep : Nat} {Q : Value → Shared → Prop} (hd : (d == sysModules) = false) (g : s.heap.get? d = some (dctO es ep))
    (h : Q (.ref s.heap.objs.size) { s with heap := s.heap.push (kitO d 0 es.size ep) }) : wpAny (model prog w) A (pyIter (.ref d)) Q E s := by
  have hT := dctO_typeIs g
  refine wpAny_pyIter_slot hT F.slot_dict_iter (wpAny_call_entry F.slot_dict_iter hT F.entry_dict_iter ?_ (F.args_dict_iter_1 _))
  unfold Builtin.«dict.__iter__» Builtin.Dict.dictSlotNone
  refine wpAny_bind (wpAny_bind (wpAny_notOrdered_dict hT ?_))
  refine wpAny_pure (wpAny_bind (wpAny_pure (wpAny_bind ?_)))
  unfold Builtin.Dict.showsAll
  rw [if_neg (by rw [hd]; decide)]
  refine wpAny_pure ?_
  refine wpAny_bind (wpAny_dictEntries g rfl (wpAny_bind (wpAny_dictEpoch g rfl ?_)))
  refine wpAny_bind (wpAny_newObj_type (wpAny_pure ⟨_, rfl, "dict_keyiterator", _, ⟨_, Heap.get?_push_size _ rfl, rfl⟩, F.slot_dict_keyiterator_next.lookup, ?_⟩))
  exact h

/-- next(it): a key -/
theorem dctNext_item {it d : Addr} {i ep : Nat} {es : Array DictEntry} {Q : Option Value → Shared → Prop} (gi : s.heap.get? it = some (kitO d i es.size ep)) (g : s.heap.get? d = some (dctO es ep)) (hx : i < es.size)
    (h : ∀ h', h'.get? it = some (kitO d (i + 1) es.size ep) → Heap.SameBut it s.heap h' → Q (some es[i].key) { s with heap := h' }) : wpAny (model prog w) A (pyNext (.ref it)) Q E s := by
  have hT : s.TypeIs (.ref it) "dict_keyiterator" := ⟨_, gi, rfl⟩
  unfold pyNext
  refine wpAny_bind (wpAny_attempt (wpAny_callSpecial?_slot (name := Str.ofString "__next__") hT F.slot_dict_keyiterator_next
    (wpAny_call_entry F.slot_dict_keyiterator_next hT F.entry_dict_keyiterator_next ?_ (F.args_dict_keyiterator_next_1 _))))
  refine wpAny_bind (wpAny_pure (wpAny_bind (wpAny_bind ?_)))
  refine wpAny_bind (wpAny_typeNameOfWhole_keyiter hT (wpAny_pure ?_))
  refine wpAny_bind (wpAny_fieldsOf gi rfl ?_)
  have hown : Builtin.Dict_items.ownsTuple "dict_keyiterator" = false := by decide
  simp only [hown, Bool.false_eq_true, if_false]
  show wpAny _ _ (if (Value.ref d == Value.none) = true then _ else _) _ _ s
  rw [if_neg (by exact Bool.false_ne_true)]
  refine wpAny_bind (wpAny_pure (wpAny_bind (wpAny_dictEntries g rfl ?_)))
  rw [if_neg (by simp)]
  refine wpAny_bind (wpAny_pure (wpAny_bind (wpAny_dictEpoch g rfl ?_)))
  rw [if_neg (by simp)]
  refine wpAny_pure ?_
  simp only [show ¬ ((i : Int) < 0) from by omega, if_false, Int.toNat_natCast, Array.getElem?_eq_getElem hx]
  refine wpAny_bind (wpAny_bind (wpAny_typeNameOfWhole_keyiter hT (wpAny_pure ?_)))
  refine wpAny_bind (wpAny_isOneOf_keyiter hT ?_)
  show wpAny _ _ (setField (.ref it) 1 (rawInt ((i : Int) + 1)) >>= _) _ _ s
  have gi' : (s.heap.update it (Obj.mapFields (·.setIfInBounds 1 (rawInt ((i : Int) + 1))))).get? it = some (kitO d (i + 1) es.size ep) :=
    (Heap.get?_update_self _ gi rfl).trans (by simp [Obj.mapFields, rawInt])
  refine wpAny_bind (wpAny_setField gi rfl (by simp) (wpAny_bind (wpAny_holding ?_)))
  refine wpAny_bind (wpAny_isOneOf_keyiter (s := { s with heap := s.heap.update it (Obj.mapFields (·.setIfInBounds 1 (rawInt ((i : Int) + 1)))) }) ⟨_, gi', rfl⟩ ?_)
  show wpAny _ _ (pure es[i].key) _ _ _
  exact wpAny_pure (wpAny_pure ⟨_, rfl, wpAny_pure (h _ gi' (Heap.SameBut.update ..))⟩)

/-- next(it): no more -/
theorem dctNext_end {it d : Addr} {ep : Nat} {es : Array DictEntry} {Q : Option Value → Shared → Prop} (hh : A.handled = none) (gi : s.heap.get? it = some (kitO d es.size es.size ep)) (g : s.heap.get? d = some (dctO es ep))
    (h : ∀ h', Heap.ExtBut it s.heap h' → Q none { s with heap := h' }) : wpAny (model prog w) A (pyNext (.ref it)) Q E s := by
  have hT : s.TypeIs (.ref it) "dict_keyiterator" := ⟨_, gi, rfl⟩
  unfold pyNext
  refine wpAny_bind (wpAny_attempt (wpAny_callSpecial?_slot (name := Str.ofString "__next__") hT F.slot_dict_keyiterator_next
    (wpAny_call_entry F.slot_dict_keyiterator_next hT F.entry_dict_keyiterator_next ?_ (F.args_dict_keyiterator_next_1 _))))
  refine wpAny_bind (wpAny_pure (wpAny_bind (wpAny_bind ?_)))
  refine wpAny_bind (wpAny_typeNameOfWhole_keyiter hT (wpAny_pure ?_))
  refine wpAny_bind (wpAny_fieldsOf gi rfl ?_)
  have hown : Builtin.Dict_items.ownsTuple "dict_keyiterator" = false := by decide
  simp only [hown, Bool.false_eq_true, if_false]
  show wpAny _ _ (if (Value.ref d == Value.none) = true then _ else _) _ _ s
  rw [if_neg (by exact Bool.false_ne_true)]
  refine wpAny_bind (wpAny_pure (wpAny_bind (wpAny_dictEntries g rfl ?_)))
  rw [if_neg (by simp)]
  refine wpAny_bind (wpAny_pure (wpAny_bind (wpAny_dictEpoch g rfl ?_)))
  rw [if_neg (by simp)]
  refine wpAny_pure ?_
  simp only [show ¬ ((es.size : Int) < 0) from by omega, if_false, Int.toNat_natCast, Array.getElem?_eq_none (Nat.le_refl es.size)]
  refine wpAny_bind (wpAny_bind (wpAny_typeNameOfWhole_keyiter hT (wpAny_pure ?_)))
  show wpAny _ _ (setField (.ref it) 0 .none >>= _) _ _ s
  refine wpAny_bind (wpAny_setField gi rfl (by simp) ?_)
  refine wpAny_bind ?_
  simp only [newExc, newTuple]
  refine wpAny_bind (wpAny_newObj_type ?_ (by size_fits))
  refine wpAny_bind (m := firstArgMember _ _) (wpAny_of_eq (a := Value.none) rfl (wpAny_newObj_type ?_ (by size_fits)))
  simp only [raiseNew]
  refine wpAny_bind (wpAny_handled ?_)
  rw [show A.in1.handled = none from hh]
  refine wpAny_bind (wpAny_pure (wpAny_throw ?_))
  refine wpAny_bind (wpAny_isInstance (T := "StopIteration") (b := true) ⟨_, Heap.get?_push_size _ rfl, rfl⟩ isSubtype_stop ?_)
  exact wpAny_pure (h _ (((Heap.SameBut.update ..).extBut.push _).push _))

/-- an items iterator: its own tuple, the dict, the place -/
noncomputable abbrev iitO (f0 f1 : Value) (d : Addr) (i n ep : Nat) (k v : Value) : Obj := { cls := .type "dict_itemiterator", data := .fields #[f0, f1, .ref d, .int i 0, .int n 0, .int ep 0, k, v] }
noncomputable def IitAt (P : Addr → Prop) (h : Heap) (it d : Addr) (i n ep : Nat) : Prop := ∃ f0 b k v, h.get? it = some (iitO f0 (.bool b) d i n ep k v) ∧ (f0 = .none ∨ ∃ (a : Nat) (o : Obj), f0 = .int a 0 ∧ a ≠ it ∧ P a ∧ h.get? a = some o)
theorem IitAt.typeIs {P : Addr → Prop} {it d : Addr} {i n ep : Nat} (x : IitAt P s.heap it d i n ep) : s.TypeIs (.ref it) "dict_itemiterator" := let ⟨_, _, _, _, g, _⟩ := x; ⟨_, g, rfl⟩

theorem alive_ok {M : Model} {a : Addr} {o : Obj} {Q : Option Obj → Shared → Prop} (e : s.heap.get? a = some o) (h : Q (some o) s) : wpAny M A (loadIfAlive a) Q E s := fun Γ p hΓ => by
  unfold loadIfAlive
  simp only [Sem.wp_loadIfAlive, e]
  exact h
theorem fieldSet {it : Addr} {o : Obj} {vs : Array Value} {j : Nat} {x : Value} {h : Heap} (g : h.get? it = some o) (e : o = { cls := .type "dict_itemiterator", data := .fields vs }) :
    (h.update it (Obj.mapFields (·.setIfInBounds j x))).get? it = some { cls := .type "dict_itemiterator", data := .fields (vs.setIfInBounds j x) } := by
  subst e
  exact (Heap.get?_update_self _ g rfl).trans rfl

/-- a pair from an iterator that owns a tuple -/
theorem pairOwn_ok {P : Addr → Prop} {it d : Addr} {i n ep : Nat} {kk vv : Value} {Q : Value → Shared → Prop} (hP : P s.heap.objs.size) (x : IitAt P s.heap it d i n ep)
    (h : ∀ h', h'.get? s.heap.objs.size = some (tupO #[kk, vv] 0) → IitAt P h' it d i n ep → (∀ b o, b ≠ it → s.heap.get? b = some o → h'.get? b = some o) → Q (.ref s.heap.objs.size) { s with heap := h' }) :
    wpAny (model prog w) A (Builtin.Dict_items.pairFromOwner (.ref it) 6 kk vv) Q E s := by
  obtain ⟨f0, b1, k0, v0, g, alt⟩ := x
  have hlt : it < s.heap.objs.size := Heap.lt_size g
  unfold Builtin.Dict_items.pairFromOwner
  refine wpAny_bind (wpAny_newTuple ?_)
  have gT : (s.heap.push (tupO #[kk, vv] 0)).get? s.heap.objs.size = some (tupO #[kk, vv] 0) := Heap.get?_push_size _ rfl
  have g1 : (s.heap.push (tupO #[kk, vv] 0)).get? it = some (iitO f0 (.bool b1) d i n ep k0 v0) := Heap.get?_push_of_some _ g
  have kp1 : ∀ b o, s.heap.get? b = some o → (s.heap.push (tupO #[kk, vv] 0)).get? b = some o := fun b o e => Heap.get?_push_of_some _ e
  show wpAny _ _ (Builtin.Dict_items.ownedTupleIsFree (.ref it) >>= _) _ _ { s with heap := s.heap.push (tupO #[kk, vv] 0) }
  generalize s.heap.push (tupO #[kk, vv] 0) = h1 at *
  generalize hTn : s.heap.objs.size = T at *
  have neT : T ≠ it := Nat.ne_of_gt hlt
  refine wpAny_bind ?_
  unfold Builtin.Dict_items.ownedTupleIsFree
  refine wpAny_bind (wpAny_field g1 rfl (x := f0) rfl ?_)
  -- the tuple is taken as its own
  have own : ∀ (h2 : Heap) (f0 f1 : Value), h2.get? it = some (iitO f0 f1 d i n ep k0 v0) → h2.get? T = some (tupO #[kk, vv] 0) → (∀ b o, b ≠ it → h1.get? b = some o → h2.get? b = some o) →
      wpAny (model prog w) A (do
        let old := [← field (.ref it) 6, ← field (.ref it) 7]
        setField (.ref it) 6 kk; setField (.ref it) 7 vv
        setField (.ref it) 0 (rawInt T); setField (.ref it) 1 (.bool false)
        letGo old [.ref T]
        pure (Value.ref T)) Q E { s with heap := h2 } := by
    intro h2 f0 f1 g2 gT2 k2
    refine wpAny_bind (wpAny_field g2 rfl (x := k0) rfl (wpAny_bind (wpAny_field g2 rfl (x := v0) rfl ?_)))
    refine wpAny_bind (wpAny_setField g2 rfl (by simp) ?_)
    have g3 := fieldSet (j := 6) (x := kk) g2 rfl
    have o3 : ∀ b o, b ≠ it → h2.get? b = some o → (h2.update it (Obj.mapFields (·.setIfInBounds 6 kk))).get? b = some o := fun b o nb e => (Heap.get?_update_other _ _ (Ne.symm nb)).trans e
    generalize h2.update it (Obj.mapFields (·.setIfInBounds 6 kk)) = h3 at *
    refine wpAny_bind (wpAny_setField (s := { s with heap := h3 }) g3 rfl (by simp) ?_)
    have g4 := fieldSet (j := 7) (x := vv) g3 rfl
    have o4 : ∀ b o, b ≠ it → h3.get? b = some o → (h3.update it (Obj.mapFields (·.setIfInBounds 7 vv))).get? b = some o := fun b o nb e => (Heap.get?_update_other _ _ (Ne.symm nb)).trans e
    generalize h3.update it (Obj.mapFields (·.setIfInBounds 7 vv)) = h4 at *
    refine wpAny_bind (wpAny_setField (s := { s with heap := h4 }) g4 rfl (by simp) ?_)
    have g5 := fieldSet (j := 0) (x := rawInt T) g4 rfl
    have o5 : ∀ b o, b ≠ it → h4.get? b = some o → (h4.update it (Obj.mapFields (·.setIfInBounds 0 (rawInt T)))).get? b = some o := fun b o nb e => (Heap.get?_update_other _ _ (Ne.symm nb)).trans e
    generalize h4.update it (Obj.mapFields (·.setIfInBounds 0 (rawInt T))) = h5 at *
    refine wpAny_bind (wpAny_setField (s := { s with heap := h5 }) g5 rfl (by simp) ?_)
    have g6 := fieldSet (j := 1) (x := .bool false) g5 rfl
    have o6 : ∀ b o, b ≠ it → h5.get? b = some o → (h5.update it (Obj.mapFields (·.setIfInBounds 1 (.bool false)))).get? b = some o := fun b o nb e => (Heap.get?_update_other _ _ (Ne.symm nb)).trans e
    generalize h5.update it (Obj.mapFields (·.setIfInBounds 1 (.bool false))) = h6 at *
    have gT6 := o6 _ _ neT (o5 _ _ neT (o4 _ _ neT (o3 _ _ neT gT2)))
    exact wpAny_bind (wpAny_letGo (wpAny_pure (h h6 gT6 ⟨_, false, _, _, g6, .inr ⟨T, _, rfl, neT, hP, gT6⟩⟩ fun b o nb e => o6 b o nb (o5 b o nb (o4 b o nb (o3 b o nb (k2 b o nb (kp1 b o e))))))))
  rcases alt with rfl | ⟨a, o, rfl, na, pa, ga⟩
  · refine wpAny_pure ?_
    simp only [if_true]
    exact own h1 _ _ g1 gT fun b o _ e => e
  · show wpAny _ _ (do
      if (← loadIfAlive (a : Int).toNat).isNone then return true
      if (← field (.ref it) 1) != .bool true then setField (.ref it) 1 (.bool true)
      return false) _ _ _
    rw [show ((a : Int)).toNat = a from rfl]
    refine wpAny_bind (alive_ok (s := { s with heap := h1 }) (kp1 _ _ ga) ?_)
    simp only [Option.isNone_some, Bool.false_eq_true, if_false]
    have fin : ∀ (h2 : Heap) (b2 : Bool), h2.get? it = some (iitO (.int a 0) (.bool b2) d i n ep k0 v0) → (∀ b o, b ≠ it → h1.get? b = some o → h2.get? b = some o) → Q (.ref T) { s with heap := h2 } := fun h2 b2 g2 k2 =>
      h h2 (k2 _ _ neT gT) ⟨_, _, _, _, g2, .inr ⟨a, o, rfl, na, pa, k2 _ _ na (kp1 _ _ ga)⟩⟩ fun b o nb e => k2 b o nb (kp1 b o e)
    refine wpAny_bind (wpAny_field g1 rfl (x := .bool b1) rfl ?_)
    by_cases hf : (Value.bool b1 != .bool true) = true
    · rw [if_pos hf]
      refine wpAny_bind (wpAny_setField (s := { s with heap := h1 }) g1 rfl (by simp) ?_)
      refine wpAny_pure ?_
      simp only [Bool.false_eq_true, if_false]
      refine wpAny_pure (fin _ _ (fieldSet (j := 1) (x := .bool true) g1 rfl) fun b o nb e => (Heap.get?_update_other _ _ (Ne.symm nb)).trans e)
    · rw [if_neg hf]
      refine wpAny_pure ?_
      simp only [Bool.false_eq_true, if_false]
      exact wpAny_pure (fin _ _ g1 fun b o _ e => e)

/-- next(it): a pair -/
theorem itmNext_item {P : Addr → Prop} {it d : Addr} {i ep : Nat} {es : Array DictEntry} {Q : Option Value → Shared → Prop} (hP : P s.heap.objs.size) (x : IitAt P s.heap it d i es.size ep) (g : s.heap.get? d = some (dctO es ep)) (hne : d ≠ it) (hx : i < es.size)
    (h : ∀ h', h'.get? s.heap.objs.size = some (tupO #[es[i].key, es[i].val] 0) → IitAt P h' it d (i + 1) es.size ep → (∀ b o, b ≠ it → s.heap.get? b = some o → h'.get? b = some o) → Q (some (.ref s.heap.objs.size)) { s with heap := h' }) :
    wpAny (model prog w) A (pyNext (.ref it)) Q E s := by
  have hT := x.typeIs
  obtain ⟨f0, b1, k0, v0, gi, alt⟩ := x
  unfold pyNext
  refine wpAny_bind (wpAny_attempt (wpAny_callSpecial?_slot (name := Str.ofString "__next__") hT F.slot_dict_itemiterator_next
    (wpAny_call_entry F.slot_dict_itemiterator_next hT F.entry_dict_itemiterator_next ?_ (F.args_dict_itemiterator_next_1 _))))
  refine wpAny_bind (wpAny_pure (wpAny_bind (wpAny_bind ?_)))
  refine wpAny_bind (wpAny_typeNameOfWhole_itemiter hT (wpAny_pure ?_))
  refine wpAny_bind (wpAny_fieldsOf gi rfl ?_)
  have hown : Builtin.Dict_items.ownsTuple "dict_itemiterator" = true := by decide
  simp only [hown, if_true]
  show wpAny _ _ (if (Value.ref d == Value.none) = true then _ else _) _ _ s
  rw [if_neg (by exact Bool.false_ne_true)]
  refine wpAny_bind (wpAny_pure (wpAny_bind (wpAny_dictEntries g rfl ?_)))
  rw [if_neg (by simp)]
  refine wpAny_bind (wpAny_pure (wpAny_bind (wpAny_dictEpoch g rfl ?_)))
  rw [if_neg (by simp)]
  refine wpAny_pure ?_
  simp only [show ¬ ((i : Int) < 0) from by omega, if_false, Int.toNat_natCast, Array.getElem?_eq_getElem hx]
  refine wpAny_bind (wpAny_bind (wpAny_typeNameOfWhole_itemiter hT (wpAny_pure ?_)))
  refine wpAny_bind (wpAny_isOneOf_itemiter hT ?_)
  show wpAny _ _ (setField (.ref it) 3 (rawInt ((i : Int) + 1)) >>= _) _ _ s
  have gi' := fieldSet (j := 3) (x := rawInt ((i : Int) + 1)) gi rfl
  have sb : Heap.SameBut it s.heap (s.heap.update it (Obj.mapFields (·.setIfInBounds 3 (rawInt ((i : Int) + 1))))) := Heap.SameBut.update ..
  refine wpAny_bind (wpAny_setField gi rfl (by simp) (wpAny_bind (wpAny_holding ?_)))
  have x' : IitAt P (s.heap.update it (Obj.mapFields (·.setIfInBounds 3 (rawInt ((i : Int) + 1))))) it d (i + 1) es.size ep :=
    ⟨f0, b1, k0, v0, gi'.trans (by simp [rawInt]), alt.imp id fun ⟨a, o, e1, e2, pa, e3⟩ => ⟨a, o, e1, e2, pa, sb.extBut _ _ e2 e3⟩⟩
  generalize s.heap.update it (Obj.mapFields (·.setIfInBounds 3 (rawInt ((i : Int) + 1)))) = h1 at *
  refine wpAny_bind (wpAny_isOneOf_itemiter (s := { s with heap := h1 }) x'.typeIs (wpAny_bind (wpAny_isOneOf_itemiter (s := { s with heap := h1 }) x'.typeIs ?_)))
  show wpAny _ _ (Builtin.Dict_items.pairFromOwner (.ref it) 6 es[i].key es[i].val) _ _ { s with heap := h1 }
  have hz : h1.objs.size = s.heap.objs.size := sb.1
  refine pairOwn_ok (s := { s with heap := h1 }) (P := P) (by show P h1.objs.size; rw [hz]; exact hP) x' fun h2 gT x2 k2 => ?_
  dsimp only at gT ⊢
  rw [hz] at gT ⊢
  exact wpAny_pure ⟨_, rfl, wpAny_pure (h h2 gT x2 fun b o nb e => k2 b o nb (sb.extBut b o nb e))⟩

/-- next(it): no more pairs -/
theorem itmNext_end {P : Addr → Prop} {it d : Addr} {ep : Nat} {es : Array DictEntry} {Q : Option Value → Shared → Prop} (hh : A.handled = none) (x : IitAt P s.heap it d es.size es.size ep) (g : s.heap.get? d = some (dctO es ep))
    (h : ∀ h', Heap.ExtBut it s.heap h' → Q none { s with heap := h' }) : wpAny (model prog w) A (pyNext (.ref it)) Q E s := by
  have hT := x.typeIs
  obtain ⟨f0, b1, k0, v0, gi, alt⟩ := x
  unfold pyNext
  refine wpAny_bind (wpAny_attempt (wpAny_callSpecial?_slot (name := Str.ofString "__next__") hT F.slot_dict_itemiterator_next
    (wpAny_call_entry F.slot_dict_itemiterator_next hT F.entry_dict_itemiterator_next ?_ (F.args_dict_itemiterator_next_1 _))))
  refine wpAny_bind (wpAny_pure (wpAny_bind (wpAny_bind ?_)))
  refine wpAny_bind (wpAny_typeNameOfWhole_itemiter hT (wpAny_pure ?_))
  refine wpAny_bind (wpAny_fieldsOf gi rfl ?_)
  have hown : Builtin.Dict_items.ownsTuple "dict_itemiterator" = true := by decide
  simp only [hown, if_true]
  show wpAny _ _ (if (Value.ref d == Value.none) = true then _ else _) _ _ s
  rw [if_neg (by exact Bool.false_ne_true)]
  refine wpAny_bind (wpAny_pure (wpAny_bind (wpAny_dictEntries g rfl ?_)))
  rw [if_neg (by simp)]
  refine wpAny_bind (wpAny_pure (wpAny_bind (wpAny_dictEpoch g rfl ?_)))
  rw [if_neg (by simp)]
  refine wpAny_pure ?_
  simp only [show ¬ ((es.size : Int) < 0) from by omega, if_false, Int.toNat_natCast, Array.getElem?_eq_none (Nat.le_refl es.size)]
  refine wpAny_bind (wpAny_bind (wpAny_typeNameOfWhole_itemiter hT (wpAny_pure ?_)))
  show wpAny _ _ (setField (.ref it) 2 .none >>= _) _ _ s
  refine wpAny_bind (wpAny_setField gi rfl (by simp) ?_)
  refine wpAny_bind ?_
  simp only [newExc, newTuple]
  refine wpAny_bind (wpAny_newObj_type ?_ (by size_fits))
  refine wpAny_bind (m := firstArgMember _ _) (wpAny_of_eq (a := Value.none) rfl (wpAny_newObj_type ?_ (by size_fits)))
  simp only [raiseNew]
  refine wpAny_bind (wpAny_handled ?_)
  rw [show A.in1.handled = none from hh]
  refine wpAny_bind (wpAny_pure (wpAny_throw ?_))
  refine wpAny_bind (wpAny_isInstance (T := "StopIteration") (b := true) ⟨_, Heap.get?_push_size _ rfl, rfl⟩ isSubtype_stop ?_)
  exact wpAny_pure (h _ (((Heap.SameBut.update ..).extBut.push _).push _))

/-- d.items(), and its iterator -/
theorem itvIter_ok {v d : Addr} {es : Array DictEntry} {ep : Nat} {Q : Value → Shared → Prop} (gv : s.heap.get? v = some (itvO d)) (g : s.heap.get? d = some (dctO es ep))
    (h : Q (.ref s.heap.objs.size) { s with heap := s.heap.push (iitO .none (.bool false) d 0 es.size ep .none .none) }) : wpAny (model prog w) A (pyIter (.ref v)) Q E s := by
  have hT : s.TypeIs (.ref v) "dict_items" := ⟨_, gv, rfl⟩
  refine wpAny_pyIter_slot hT F.slot_dict_items_iter (wpAny_call_entry F.slot_dict_items_iter hT F.entry_dict_items_iter ?_ (F.args_dict_items_iter_1 _))
  unfold Builtin.«dict_items.__iter__»
  refine wpAny_bind (wpAny_pure (wpAny_bind ?_))
  unfold Builtin.Dict_items.dictOf
  refine wpAny_bind (wpAny_field gv rfl (x := .ref d) rfl (wpAny_pure (wpAny_bind ?_)))
  unfold Builtin.Dict_items.newIterator
  refine wpAny_bind (wpAny_dictEntries g rfl (wpAny_bind (wpAny_dictEpoch g rfl ?_)))
  have hown : Builtin.Dict_items.ownsTuple "dict_itemiterator" = true := by decide
  simp only [hown, if_true]
  refine wpAny_newObj_type (wpAny_pure ⟨_, rfl, "dict_itemiterator", _, ⟨_, Heap.get?_push_size _ rfl, rfl⟩, F.slot_dict_itemiterator_next.lookup, ?_⟩)
    (by simp only [sizeOk, Builtin.Dict_items.ownedTupleFields, List.size_toArray, List.length_append, List.length_cons, List.length_nil, sizeLine_eq]; omega)
  exact h
end
end Mine
namespace Mine
open PySem PySem.Spec PySem.Calls PyProof.Rows PySem.W
set_option linter.unusedVariables false
set_option maxRecDepth 100000

theorem list_keys_none : typeLookup (.type "list") "keys" = pure none := by rw [typeLookup_type, builtinLookup_eq_fast]; kernel_rfl

section
variable {prog : Program} {w : World} {A : Around} {E : Value → Shared → Prop} {s : Shared}
/-- a list has no keys -/
theorem keysMiss {a : Addr} {xs : Array Value} {k : Nat} {Q : Option Value → Shared → Prop} (hx : s.heap.get? a = some (lstO xs k)) (hA : A.handled = none)
    (h : ∀ h' tk, (∀ b o, s.heap.get? b = some o → h'.get? b = some o) → Q none { s with heap := h', toks := tk }) : wpAny (model prog w) A (getAttr? (.ref a) "keys") Q E s := by
  obtain ⟨hp, g, d, tk, os⟩ := s
  have hT : ∀ tk', (⟨hp, g, d, tk', os⟩ : Shared).TypeIs (.ref a) "list" := fun _ => ⟨_, hx, rfl⟩
  have f1 := sub_AttributeError
  have f3 := F.slot_list_getattribute.lookup
  have f4 := F.slot_list_getattribute.bind (.ref a)
  have f5 := am_list_getattr_none
  unfold getAttr? getAttrBy?
  refine wpAny_bind (wpAny_mkText ?_)
  refine wpAny_bind (wpAny_attempt ?_)
  unfold getAttrBy
  repeat (any_goals (first | assumption | exact hT _ | ((with_reducible show wpAny _ _ (call (Value.builtin "list.__getattribute__") _ _) _ _ _); refine call_meets F.slot_list_getattribute (hT _) am_entry_list_getattribute (F.args_list_getattribute_2 _ _) (meets_getattribute_miss_list a xs k #[] "keys" _ list_keys_none (by decide) (by size_fits)) ⟨hx, hA, fun h' tk' e hx' => ?_⟩) | wp_step))
  obtain ⟨ob, vs, he, hc, _⟩ := hx'.of.there
  have k1 := hx'.of.keeps
  dsimp only at k1
  obtain ⟨cls, dct, dat, sl⟩ := ob
  simp only at hc
  subst hc
  show wpAny _ _ (getattributeRaised _ _ _ _ _ _ _) _ _ _
  unfold getattributeRaised
  repeat (any_goals (first | assumption | wp_step))
  exact h _ _ k1

theorem entry_upd : entryFor table "dict.update.loop" = some Builtin.«dict.update.loop» := entryFor_of_tree (by kernel_rfl)
theorem plain_upd : plainId "dict.update.loop" = true := by decide +kernel
noncomputable abbrev ik (prog : Program) (w : World) : HeapKind prog w (List Int) := tupleKind (intKind prog w)

theorem seqItemsQ_ok {M : Model} {a : Addr} {o : Obj} {items : Array Value} {n : Nat} {Q : Option (Array Value) → Shared → Prop} (ho : s.heap.get? a = some o) (hd : o.data = .seq items n) (h : Q (some items) s) : wpAny M A (seqItems? (.ref a)) Q E s := by
  unfold seqItems?
  refine wpAny_bind (wpAny_load ho ?_)
  rw [hd]
  exact wpAny_pure h

/-- the items of a list: pairs of a key's tuple and a value -/
noncomputable def PairAt (prog : Program) (w : World) (h : Heap) (v : Value) (p : List Int × Addr × Value) : Prop := ∃ t m, v = .ref t ∧ h.get? t = some (tupO #[.ref p.2.1, p.2.2] m) ∧ (ik prog w).is h p.1 p.2.1
theorem PairAt.kp {h h' : Heap} {v : Value} {p : List Int × Addr × Value} (x : PairAt prog w h v p) (k : ∀ b o, h.get? b = some o → (∀ es ep, o.data ≠ .dict es ep) → (∀ vs, o.data ≠ .fields vs) → h'.get? b = some o) : PairAt prog w h' v p := by
  obtain ⟨t, m, e, g, o, its, n, e2, c2, d2, i2⟩ := x
  exact ⟨t, m, e, k _ _ g (by intro _ _ q; cases q) (by intro _ q; cases q), o, its, n, k _ _ e2 (by intro _ _ q; rw [d2] at q; cases q) (by intro _ q; rw [d2] at q; cases q), c2, d2, i2⟩

theorem updLoop_ok {R : Result → Shared → Prop} {I l Dd : Addr} {vs : Array Value} {m : Nat} {ps : List (List Int × Addr × Value)} (hA : A.handled = none) (hu : A.units + 1 < cLine) (nIl : l ≠ I) (nID : Dd ≠ I) (nlD : l ≠ Dd) (hlen : vs.size = ps.length) (hz : ps.length ≤ 1000) :
    ∀ (k i : Nat) (s : Shared) (xs : List (List Int × Addr × Value)), i + k = ps.length → xs.length ≤ i → s.heap.IsListIter I l i → s.heap.get? l = some (lstO vs m) → s.heap.DictOfH (ik prog w) Dd xs → (∀ (j : Nat) p v, ps[j]? = some p → vs[j]? = some v → PairAt prog w s.heap v p) →
    (∀ h' tk, (∀ b o, b ≠ Dd → b ≠ I → s.heap.get? b = some o → h'.get? b = some o) → h'.DictOfH (ik prog w) Dd ((ps.drop i).foldl (fun xs p => storedH xs p.1 p.2.1 p.2.2) xs) → R (.ok (.ret .none)) { s with heap := h', toks := tk }) →
    ∀ j : Int, codeAny (model prog w) A (.builtin "dict.update.loop" ⟨[.ref Dd, .ref I, rawInt j, .none], []⟩) R s := by
  intro k
  induction k with
  | zero =>
    intro i s xs hk hx hit g hm hp hR j
    refine codeAny_builtin entry_upd ?_
    rw [Around.under_plainId plain_upd _]
    show wpAny _ A.in1 (pyNext (.ref I) >>= _) _ _ s
    refine wpAny_bind (wpAny_pyNext_list_end hA hit ⟨_, g, rfl, m, rfl⟩ (Array.getElem?_eq_none (by omega)) fun h' hs => ?_)
    show wpAny _ _ (Builtin.Dict.addKeywords Dd [] >>= _) _ _ _
    refine wpAny_bind (wpAny_pure (wpAny_pure (hR h' s.toks (fun b o _ nb e => hs b o nb e) ?_)))
    rw [List.drop_eq_nil_of_le (by omega)]
    obtain ⟨o, es, ep, e1, e2, e3, e4, e5, e6⟩ := hm
    refine ⟨o, es, ep, hs _ _ nID e1, e2, e3, e4, fun x hx => ?_, e6⟩
    obtain ⟨o', its, n', q1, q2, q3, q4⟩ := e5 x hx
    refine ⟨o', its, n', hs _ _ (fun w => ?_) q1, q2, q3, q4⟩
    obtain ⟨oi, qi, ci, di⟩ := hit
    rw [w, qi] at q1; cases q1
    rw [di] at q3; cases q3
  | succ k ih =>
    intro i s xs hk hx hit g hm hp hR j
    have hi : i < ps.length := by omega
    have hiv : i < vs.size := by omega
    obtain ⟨p, hpi⟩ : ∃ p, ps[i]? = some p := ⟨_, List.getElem?_eq_getElem hi⟩
    refine codeAny_builtin entry_upd ?_
    rw [Around.under_plainId plain_upd _]
    show wpAny _ A.in1 (pyNext (.ref I) >>= _) _ _ s
    refine wpAny_bind (wpAny_pyNext_list_item hit ⟨_, g, rfl, m, rfl⟩ (Array.getElem?_eq_getElem hiv) fun h1 hit1 hs1 => ?_)
    have notI : ∀ b o, s.heap.get? b = some o → (∀ vs, o.data ≠ .fields vs) → b ≠ I := fun b o e nf q => by
      obtain ⟨oi, qi, ci, di⟩ := hit
      rw [q, qi] at e; cases e
      exact nf _ di
    have k1 : ∀ b o, s.heap.get? b = some o → (∀ vs, o.data ≠ .fields vs) → h1.get? b = some o := fun b o e nf => (hs1.2 b (notI b o e nf)).trans e
    have P1 : ∀ (j : Nat) p v, ps[j]? = some p → vs[j]? = some v → PairAt prog w h1 v p := fun j p v e1 e2 => (hp j p v e1 e2).kp fun b o e _ nf => k1 b o e nf
    have hm1 : h1.DictOfH (ik prog w) Dd xs := by
      obtain ⟨o, es, ep, e1, e2, e3, e4, e5, e6⟩ := hm
      refine ⟨o, es, ep, k1 _ _ e1 (by intro _ q; rw [e3] at q; cases q), e2, e3, e4, fun x hx => ?_, e6⟩
      obtain ⟨o', its, n', q1, q2, q3, q4⟩ := e5 x hx
      exact ⟨o', its, n', k1 _ _ q1 (by intro _ q; rw [q3] at q; cases q), q2, q3, q4⟩
    have g1 : h1.get? l = some (lstO vs m) := k1 _ _ g (by intro _ q; cases q)
    obtain ⟨t, mt, et, gt, hkey⟩ := P1 i p _ hpi (Array.getElem?_eq_getElem hiv)
    have hTt : Shared.TypeIs { s with heap := h1 } (.ref t) "tuple" := ⟨_, gt, rfl⟩
    show wpAny _ _ (holding [vs[i]] _ >>= _) _ _ { s with heap := h1 }
    rw [et]
    refine wpAny_bind (wpAny_holding ?_)
    refine wpAny_bind (wpAny_tryCatch ?_)
    unfold Builtin.Dict.pairItems
    refine wpAny_bind (wpAny_typeOf hTt ?_)
    rw [if_pos (by decide)]
    refine wpAny_bind (seqItemsQ_ok (s := { s with heap := h1 }) gt rfl (wpAny_pure ?_))
    show wpAny _ _ (holding [.ref p.2.1, p.2.2] (dictSet Dd (.ref p.2.1) p.2.2)) _ _ { s with heap := h1 }
    refine wpAny_holding (wpAny_dictSet_heap (knd := ik prog w) (s := { s with heap := h1 }) (tupleKind_room_in1 hu) hkey hm1 (fun h2 hm2 hs2 => ?_) (by rw [sizeLine_eq]; omega))
    dsimp only at hs2
    have nd : ∀ b o, h1.get? b = some o → (∀ es ep, o.data ≠ .dict es ep) → b ≠ Dd := fun b o e nf q => by
      obtain ⟨o', es, ep, e1, e2, e3, _⟩ := hm1
      rw [q, e1] at e; cases e
      exact nf _ _ e3
    have k2 : ∀ b o, h1.get? b = some o → (∀ es ep, o.data ≠ .dict es ep) → h2.get? b = some o := fun b o e nf => (hs2.2 b (nd b o e nf)).trans e
    obtain ⟨oi1, qi1, ci1, di1⟩ := hit1
    refine wpAny_pure ⟨plainId_quiet plain_upd _, ih (i + 1) _ (storedH xs p.1 p.2.1 p.2.2) (by omega) ?_ ⟨oi1, k2 _ _ qi1 (by intro _ _ q; rw [di1] at q; cases q), ci1, di1⟩ (k2 _ _ g1 (by intro _ _ q; cases q)) hm2 (fun j p v e1 e2 => (P1 j p v e1 e2).kp fun b o e nf _ => k2 b o e nf) (fun h' tk kk hd => ?_) _⟩
    · unfold storedH
      split <;> simp <;> omega
    · refine hR h' tk (fun b o nD nI e => kk b o nD nI ((hs2.2 b nD).trans ((hs1.2 b nI).trans e))) ?_
      rw [List.drop_eq_getElem_cons hi, List.foldl_cons]
      have : ps[i] = p := by rw [List.getElem?_eq_getElem hi] at hpi; exact Option.some.inj hpi
      rw [this]; exact hd
end
end Mine
namespace Mine
open PySem PySem.Spec PySem.Calls PyProof.Rows PySem.W
set_option linter.unusedVariables false
set_option maxRecDepth 100000

section
variable {prog : Program} {w : World} {A : Around} {E : Value → Shared → Prop} {s : Shared}
/-- dict(list of pairs) -/
theorem dictOf_ok {l : Addr} {vs : Array Value} {m : Nat} {ps : List (List Int × Addr × Value)} {Q : Value → Shared → Prop} (hA : A.handled = none) (hu : A.units + 2 < cLine) (g : s.heap.get? l = some (lstO vs m)) (hlen : vs.size = ps.length) (hz : ps.length ≤ 1000)
    (hp : ∀ (j : Nat) p v, ps[j]? = some p → vs[j]? = some v → PairAt prog w s.heap v p)
    (h : ∀ h' tk, (∀ b o, s.heap.get? b = some o → h'.get? b = some o) → h'.DictOfH (ik prog w) s.heap.objs.size (ps.foldl (fun xs p => storedH xs p.1 p.2.1 p.2.2) []) → Q (.ref s.heap.objs.size) { s with heap := h', toks := tk }) :
    wpAny (model prog w) A (call (.type "dict") [.ref l]) Q E s := by
  refine callType_codes (Q₁ := fun obj s₁ => obj = .ref s.heap.objs.size ∧ s₁ = { s with heap := s.heap.push { cls := .type "dict", data := .dict #[] } }) F.kt_called_dict (F.kt_typeCall_dict_1 _) F.entry_dict_init (kt_code_dict_new _ ⟨rfl, rfl⟩) ?_
  rintro obj s₁ ⟨rfl, rfl⟩
  have hnew : (s.heap.push { cls := .type "dict", data := .dict #[] }).DictOfH (ik prog w) s.heap.objs.size [] := Heap.DictOfH.new s.heap
  have kn : ∀ b o, s.heap.get? b = some o → (s.heap.push { cls := .type "dict", data := .dict #[] }).get? b = some o := fun b o e => Heap.get?_push_of_some _ e
  have ltd : s.heap.objs.size < (s.heap.push { cls := .type "dict", data := .dict #[] }).objs.size := by rw [Heap.size_push]; omega
  refine ⟨hnew.typeIs, F.args_dict_init_2 _ _, ?_⟩
  generalize hD : s.heap.objs.size = Dd at *
  have fr : s.heap.get? Dd = none := hD ▸ get_size _
  generalize s.heap.push { cls := .type "dict", data := .dict #[] } = h1 at *
  unfold Builtin.«dict.__init__»
  refine wpAny_bind ?_
  unfold Builtin.Dict.selfAndRest
  refine wpAny_bind (wpAny_notOrdered_dict (Heap.DictOfH.typeIs (s := { s with heap := h1 }) hnew) ?_)
  show wpAny _ _ (pure (Dd, [Value.ref l])) _ _ _
  refine wpAny_pure ?_
  show wpAny _ _ (Builtin.Dict.updateFrom "dict.__init__" Dd (.ref l) [] .none) _ _ _
  unfold Builtin.Dict.updateFrom
  have g1 := kn _ _ g
  refine wpAny_bind (wpAny_typeOf (T := "list") ⟨_, g1, rfl⟩ ?_)
  rw [if_pos (by decide)]
  refine wpAny_bind (keysMiss (s := { s with heap := h1 }) g1 hA fun h2 tk2 k2 => ?_)
  simp only [Option.isNone_none, if_true]
  refine wpAny_bind (wpAny_rule ?_)
  dsimp only at k2
  have g2 := k2 _ _ g1
  refine wpAny_bind (wpAny_pyIter_list (s := { s with heap := h2, toks := tk2 }) (items := vs) ⟨_, g2, rfl, m, rfl⟩ ?_)
  dsimp only
  have k3 : ∀ b o, h2.get? b = some o → (h2.push { cls := .type "list_iterator", data := .fields #[.ref l, .int 0 0] }).get? b = some o := fun b o e => Heap.get?_push_of_some _ e
  have gi : (h2.push { cls := .type "list_iterator", data := .fields #[.ref l, .int 0 0] }).get? h2.objs.size = some { cls := .type "list_iterator", data := .fields #[.ref l, .int 0 0] } := Heap.get?_push_size _ rfl
  have kk : ∀ b o, h1.get? b = some o → (h2.push { cls := .type "list_iterator", data := .fields #[.ref l, .int 0 0] }).get? b = some o := fun b o e => k3 b o (k2 b o e)
  have nI : ∀ b o, h1.get? b = some o → b ≠ h2.objs.size := fun b o e q => by
    have := Heap.lt_size (k2 b o e)
    rw [q] at this
    exact Nat.lt_irrefl _ this
  have hm : (h2.push { cls := .type "list_iterator", data := .fields #[.ref l, .int 0 0] }).DictOfH (ik prog w) Dd [] := by
    obtain ⟨o, es, ep, e1, e2, e3, e4, e5, e6⟩ := hnew
    exact ⟨o, es, ep, kk _ _ e1, e2, e3, e4, (fun x hx => by cases hx), e6⟩
  have hDI : Dd ≠ h2.objs.size := by obtain ⟨o, es, ep, e1, _⟩ := hnew; exact nI _ _ e1
  have hlD : l ≠ Dd := fun q => by rw [q, fr] at g; cases g
  refine wpAny_pure ⟨plainId_quiet plain_upd _, ?_⟩
  refine updLoop_ok (A := A.in1) (I := h2.objs.size) (l := l) (Dd := Dd) (ps := ps) (vs := vs) (m := m) hA (by show A.units + 1 + 1 < cLine; omega) (nI _ _ g1) hDI hlD hlen hz ps.length 0 { s with heap := h2.push _, toks := tk2 } [] (by omega) (Nat.zero_le _) ⟨_, gi, rfl, rfl⟩ (k3 _ _ g2) hm
    (fun j p v e1 e2 => (hp j p v e1 e2).kp fun b o e _ _ => kk b o (kn b o e)) (fun h' tk k' hd => ?_) 0
  refine ⟨rfl, h h' tk (fun b o e => k' b o (fun q => by rw [q, fr] at e; cases e) (nI _ _ (kn b o e)) (kk b o (kn b o e))) ?_⟩
  rw [List.drop_zero] at hd
  exact hd
end
end Mine
namespace Mine
open PySem PySem.Spec PySem.Calls PyProof.Rows PySem.W
set_option linter.unusedVariables false
set_option maxRecDepth 100000

section
variable {prog : Program} {w : World} {A : Around} {E : Value → Shared → Prop} {s : Shared}
theorem itvHint_ok {r : Addr} {Q : Bool → Shared → Prop} (hT : s.TypeIs (.ref r) "dict_items") (h : Q false s) : wpAny (model prog w) A (Builtin.List.listLengthHint (.ref r)) Q E s := by
  unfold Builtin.List.listLengthHint
  refine wpAny_bind (wpAny_specialOf hT F.slot_dict_items_len.lookup ?_)
  generalize hid : ("dict_items.__len__" : String) = id0
  wp_delta
  rw [show splitId id0 = some ("dict_items", "__len__") from by subst hid; decide +kernel]
  subst hid
  refine wpAny_bind (wpAny_isInstance (T := "dict_items") (b := true) hT (by rw [isSubtype_type]; kernel_rfl) ?_)
  refine wpAny_ite_split (fun hab => absurd hab (by decide)) (fun _ => ?_)
  refine wpAny_ite_split (fun _ => ?_) (fun hab => absurd (by decide +kernel) hab)
  exact wpAny_bind (wpAny_typeOf hT (wpAny_pure h))

theorem dctItems_call {d : Addr} {es : Array DictEntry} {ep : Nat} {Q : Value → Shared → Prop} (hd : (d == sysModules) = false) (g : s.heap.get? d = some (dctO es ep))
    (h : Q (.ref s.heap.objs.size) { s with heap := s.heap.push (itvO d) }) : wpAny (model prog w) A (call (.builtin "dict.items") [.ref d]) Q E s := by
  have hT := dctO_typeIs g
  refine wpAny_call_entry F.slot_dict_items hT F.entry_dict_items ?_ (F.args_dict_items_1 _)
  unfold Builtin.«dict.items» Builtin.Dict.noArgs
  refine wpAny_bind (wpAny_bind (wpAny_notOrdered_dict hT ?_))
  refine wpAny_pure (wpAny_bind ?_)
  unfold Builtin.Dict.showsAll
  rw [if_neg (by rw [hd]; decide)]
  refine wpAny_pure ?_
  exact wpAny_bind (wpAny_newObj_type (wpAny_pure ⟨_, rfl, h⟩))

/-- the list's loop over a dict's pairs -/
theorem extLoop_ok {R : Result → Shared → Prop} {I d S : Addr} {es : Array DictEntry} {ep : Nat} {res : Value} {Fr : Addr → Prop} (hA : A.handled = none) (nId : d ≠ I) (nSI : S ≠ I) (nSd : S ≠ d) (hz : es.size ≤ 1000) :
    ∀ (k i : Nat) (s : Shared) (acc : Array Value) (c : Nat), i + k = es.size → acc.size = i → (∀ t, s.heap.get? t = none → Fr t) → IitAt (fun _ => True) s.heap I d i es.size ep → s.heap.get? d = some (dctO es ep) → s.heap.get? S = some (lstO acc c) →
    (∀ (j : Nat) (e : DictEntry), j < i → es[j]? = some e → ∃ t m, acc[j]? = some (.ref t) ∧ Fr t ∧ s.heap.get? t = some (tupO #[e.key, e.val] m)) →
    (∀ h' tk acc' c', (∀ b o, b ≠ S → b ≠ I → s.heap.get? b = some o → h'.get? b = some o) → h'.get? S = some (lstO acc' c') → acc'.size = es.size → (∀ (j : Nat) (e : DictEntry), es[j]? = some e → ∃ t m, acc'[j]? = some (.ref t) ∧ Fr t ∧ h'.get? t = some (tupO #[e.key, e.val] m)) → R (.ok (.ret res)) { s with heap := h', toks := tk }) →
    codeAny (model prog w) A (.builtin "list.extend.loop" ⟨[.ref S, .ref I, res], []⟩) R s := by
  intro k
  induction k with
  | zero =>
    intro i s acc c hk ha hfr x g hS hacc hR
    have : i = es.size := by omega
    subst this
    refine codeAny_builtin F.entry_extend_loop ?_
    rw [Around.under_plainId F.plain_extend_loop _]
    show wpAny _ A.in1 (pyNext (.ref I) >>= _) _ _ s
    refine wpAny_bind (itmNext_end hA x g fun h' hs => ?_)
    refine wpAny_pure (hR h' s.toks acc c (fun b o _ nI e => hs b o nI e) (hs _ _ nSI hS) ha fun j e he => ?_)
    obtain ⟨t, m, e1, ef, e2⟩ := hacc j e (by have := (Array.getElem?_eq_some_iff.mp he).1; exact this) he
    refine ⟨t, m, e1, ef, hs _ _ (fun q => ?_) e2⟩
    obtain ⟨_, _, _, _, gi, _⟩ := x
    rw [q, gi] at e2
    have := congrArg (Option.map Obj.cls) e2
    simp at this
  | succ k ih =>
    intro i s acc c hk ha hfr x g hS hacc hR
    have hi : i < es.size := by omega
    refine codeAny_builtin F.entry_extend_loop ?_
    rw [Around.under_plainId F.plain_extend_loop _]
    show wpAny _ A.in1 (pyNext (.ref I) >>= _) _ _ s
    refine wpAny_bind (itmNext_item (P := fun _ => True) trivial x g nId hi fun h1 gT x1 k1 => ?_)
    have hS1 := k1 _ _ nSI hS
    have g1 := k1 _ _ nId g
    generalize hTn : s.heap.objs.size = T at *
    have fr : s.heap.get? T = none := hTn ▸ get_size _
    have nTS : T ≠ S := fun q => by rw [q, hS] at fr; cases fr
    show wpAny _ A.in1 (updateSeq S (·.push (.ref T)) >>= _) _ _ { s with heap := h1 }
    refine wpAny_bind (wpAny_updateSeq (hz := by rw [sizeLine_eq]; omega) (_hz' := by show (acc.push _).size ≤ sizeLine + 1; rw [Array.size_push, sizeLine_eq]; omega) (s := { s with heap := h1 }) hS1 rfl ?_)
    have sb := Heap.SameBut.update h1 S (Obj.mapSeq (·.push (Value.ref T)))
    have gS2 := Heap.get?_update_self (Obj.mapSeq (·.push (Value.ref T))) hS1 rfl
    have o2 : ∀ b o, b ≠ S → h1.get? b = some o → (h1.update S (Obj.mapSeq (·.push (Value.ref T)))).get? b = some o := fun b o nb e => (sb.2 b nb).trans e
    dsimp only
    generalize h1.update S (Obj.mapSeq (·.push (Value.ref T))) = h2 at *
    obtain ⟨f0, b1, k0, v0, gi1, alt⟩ := x1
    have x2 : IitAt (fun _ => True) h2 I d (i + 1) es.size ep := ⟨f0, b1, k0, v0, o2 _ _ (Ne.symm nSI) gi1, alt.imp id fun ⟨a, o, q1, q2, q4, q3⟩ => (by
      by_cases qS : a = S
      · exact ⟨a, _, q1, q2, q4, qS ▸ gS2⟩
      · exact ⟨a, o, q1, q2, q4, o2 _ _ qS q3⟩)⟩
    refine wpAny_pure ⟨plainId_quiet F.plain_extend_loop _, ih (i + 1) _ (acc.push (.ref T)) _ (by omega) (by rw [Array.size_push, ha]) (fun t e => hfr t ?_) x2 (o2 _ _ (Ne.symm nSd) g1) gS2 (fun j e hj he => ?_) fun h' tk acc' c' kk a1 a2 a3 => ?_⟩
    · cases q : s.heap.get? t with
      | none => rfl
      | some o =>
        by_cases qS : t = S
        · rw [qS, gS2] at e; cases e
        · by_cases qI : t = I
          · rw [qI, o2 _ _ (Ne.symm nSI) gi1] at e; cases e
          · rw [o2 _ _ qS (k1 _ _ qI q)] at e; cases e
    · by_cases hji : j < i
      · obtain ⟨t, m, e1, ef, e2⟩ := hacc j e hji he
        refine ⟨t, m, by rw [Array.getElem?_push_lt (by omega)]; rw [Array.getElem?_eq_getElem (by omega)] at e1; exact e1, ef, o2 _ _ (fun q => ?_) (k1 _ _ (fun q => ?_) e2)⟩
        · rw [q, hS] at e2
          have := congrArg (Option.map Obj.cls) e2
          simp at this
        · obtain ⟨_, _, _, _, gi, _⟩ := x
          rw [q, gi] at e2
          have := congrArg (Option.map Obj.cls) e2
          simp at this
      · have : j = i := by omega
        subst this
        have e' : es[j] = e := by rw [Array.getElem?_eq_getElem hi] at he; exact Option.some.inj he
        subst e'
        exact ⟨T, 0, by rw [← ha]; simp, hfr T fr, o2 _ _ nTS gT⟩
    · exact hR h' tk acc' c' (fun b o nS nI e => kk b o nS nI (o2 b o nS (k1 b o nI e))) a1 a2 a3

/-- list(d.items()) -/
theorem listItems_ok {v d : Addr} {es : Array DictEntry} {ep : Nat} {Q : Value → Shared → Prop} (hA : A.handled = none) (hz : es.size ≤ 1000) (gv : s.heap.get? v = some (itvO d)) (g : s.heap.get? d = some (dctO es ep))
    (h : ∀ h' tk acc c, (∀ b o, s.heap.get? b = some o → h'.get? b = some o) → h'.get? s.heap.objs.size = some (lstO acc c) → acc.size = es.size → (∀ (j : Nat) (e : DictEntry), es[j]? = some e → ∃ t m, acc[j]? = some (.ref t) ∧ s.heap.get? t = none ∧ h'.get? t = some (tupO #[e.key, e.val] m)) → Q (.ref s.heap.objs.size) { s with heap := h', toks := tk }) :
    wpAny (model prog w) A (call (.type "list") [.ref v]) Q E s := by
  refine callType_codes (Q₁ := fun obj s₁ => obj = .ref s.heap.objs.size ∧ s₁ = { s with heap := s.heap.push { cls := .type "list", data := .seq #[] } }) F.called_list (F.typeCall_list_1 _) F.entry_list_init
    (code_list_new _ ⟨rfl, rfl⟩) fun obj s₁ h₁ => ?_
  obtain ⟨rfl, rfl⟩ := h₁
  have hS : (s.heap.push (lstO #[] 0)).get? s.heap.objs.size = some (lstO #[] 0) := Heap.get?_push_size _ rfl
  have kn : ∀ b o, s.heap.get? b = some o → (s.heap.push (lstO #[] 0)).get? b = some o := fun b o e => Heap.get?_push_of_some _ e
  refine ⟨⟨_, hS, rfl⟩, F.args_list_init_2 _ _, ?_⟩
  show wpAny _ _ (do let old ← Builtin.List.listItems (.ref s.heap.objs.size); Builtin.List.listUpdate (.ref s.heap.objs.size) (fun _ => #[]); letGo old.toList.reverse; Builtin.List.listExtendWith (.ref s.heap.objs.size) (.ref v) .none) _ _ { s with heap := s.heap.push (lstO #[] 0) }
  generalize hSn : s.heap.objs.size = S at *
  have fr : s.heap.get? S = none := hSn ▸ get_size _
  generalize s.heap.push (lstO #[] 0) = h1 at *
  have nvS : v ≠ S := fun q => by rw [q, fr] at gv; cases gv
  have ndS : d ≠ S := fun q => by rw [q, fr] at g; cases g
  refine wpAny_bind ?_
  unfold Builtin.List.listItems
  refine wpAny_bind (wpAny_seqItems (s := { s with heap := h1 }) hS rfl (wpAny_pure ?_))
  show wpAny _ _ (updateSeq S (fun _ => #[]) >>= fun _ => letGo (#[] : Array Value).toList.reverse >>= fun _ => Builtin.List.listExtendWith (.ref S) (.ref v) .none) _ _ { s with heap := h1 }
  refine wpAny_bind (wpAny_updateSeq (s := { s with heap := h1 }) hS rfl ?_)
  have g2 := Heap.get?_update_self (Obj.mapSeq (fun _ => (#[] : Array Value))) hS rfl
  have o2 : ∀ b o, b ≠ S → h1.get? b = some o → (h1.update S (Obj.mapSeq (fun _ => (#[] : Array Value)))).get? b = some o := fun b o nb e => (Heap.get?_update_other _ _ (Ne.symm nb)).trans e
  dsimp only
  generalize h1.update S (Obj.mapSeq (fun _ => (#[] : Array Value))) = h2 at *
  refine wpAny_bind (wpAny_letGo ?_)
  have gv2 := o2 _ _ nvS (kn _ _ gv)
  have gd2 := o2 _ _ ndS (kn _ _ g)
  unfold Builtin.List.listExtendWith
  refine wpAny_bind (wpAny_typeOf (T := "dict_items") ⟨_, gv2, rfl⟩ ?_)
  have e1 : Builtin.List.listSameRef (.ref S) (.ref v) = false := by simp [Builtin.List.listSameRef, Ne.symm nvS]
  simp only [e1, show (Value.type "dict_items" == Value.type "list") = false by decide, show (Value.type "dict_items" == Value.type "tuple") = false by decide, Bool.or_false, Bool.false_eq_true, if_false]
  refine wpAny_bind (itvIter_ok (s := { s with heap := h2 }) gv2 gd2 ?_)
  dsimp only
  have gI : (h2.push (iitO .none (.bool false) d 0 es.size ep .none .none)).get? h2.objs.size = some (iitO .none (.bool false) d 0 es.size ep .none .none) := Heap.get?_push_size _ rfl
  have k3 : ∀ b o, h2.get? b = some o → (h2.push (iitO .none (.bool false) d 0 es.size ep .none .none)).get? b = some o := fun b o e => Heap.get?_push_of_some _ e
  have nI : ∀ b o, h2.get? b = some o → b ≠ h2.objs.size := fun b o e q => by
    have := Heap.lt_size e
    rw [q] at this
    exact Nat.lt_irrefl _ this
  generalize h2.push (iitO .none (.bool false) d 0 es.size ep .none .none) = h3 at *
  generalize h2.objs.size = I at *
  refine wpAny_bind (wpAny_holding (itvHint_ok (s := { s with heap := h3 }) ⟨_, k3 _ _ gv2, rfl⟩ ?_))
  have fin : ∀ (h4 : Heap) (tk : Nat) (c : Nat), h4.get? S = some (lstO #[] c) → (∀ b o, b ≠ S → h3.get? b = some o → h4.get? b = some o) →
      codeAny (model prog w) A.in1 (.builtin "list.extend.loop" ⟨[.ref S, .ref I, .none], []⟩) (wants (fun r s₂ => r = .none ∧ Q (.ref S) s₂) E) { s with heap := h4, toks := tk } := by
    intro h4 tk c g4 k4
    refine extLoop_ok (A := A.in1) (I := I) (d := d) (S := S) (es := es) (ep := ep) hA (nI _ _ gd2) (nI _ _ g2) (Ne.symm ndS) hz es.size 0 { s with heap := h4, toks := tk } #[] c (Fr := fun t => s.heap.get? t = none) (by omega) rfl (fun t e => ?_) ⟨_, _, _, _, k4 _ _ (Ne.symm (nI _ _ g2)) gI, .inl rfl⟩ (k4 _ _ ndS (k3 _ _ gd2)) g4 (fun j e hj => absurd hj (Nat.not_lt_zero _)) (fun h' tk' acc c' kk a1 a2 a3 => ?_)
    · cases q : s.heap.get? t with
      | none => rfl
      | some o =>
        have nb : t ≠ S := fun w => by rw [w, fr] at q; cases q
        rw [k4 t o nb (k3 t o (o2 t o nb (kn t o q)))] at e; cases e
    have old : ∀ b o, s.heap.get? b = some o → h'.get? b = some o := fun b o e => by
      have nb : b ≠ S := fun q => by rw [q, fr] at e; cases e
      have e2 := o2 b o nb (kn b o e)
      exact kk b o nb (nI _ _ e2) (k4 b o nb (k3 b o e2))
    refine ⟨rfl, h h' tk' acc c' old a1 a2 fun j e he => ?_⟩
    exact a3 j e he
  refine wpAny_ite_split (fun _ => ?_) (fun _ => wpAny_pure ⟨plainId_quiet F.plain_extend_loop _, fin h3 s.toks _ (k3 _ _ g2) fun b o _ e => e⟩)
  refine wpAny_bind (wpAny_rule (wpAny_bind ?_))
  show wpAny _ _ (updateSeq S (·.push .none) >>= fun _ => updateSeq S (·.pop)) _ _ { s with heap := h3 }
  have gS3 := k3 _ _ g2
  refine wpAny_bind (wpAny_updateSeq (s := { s with heap := h3 }) gS3 rfl ?_)
  have gS4 := Heap.get?_update_self (Obj.mapSeq (·.push Value.none)) gS3 rfl
  refine wpAny_updateSeq (hz := by seq_fits) (s := { s with heap := h3.update S (Obj.mapSeq (·.push Value.none)) }) gS4 rfl ?_
  have gS5 := Heap.get?_update_self (Obj.mapSeq (·.pop)) gS4 rfl
  refine wpAny_pure ⟨plainId_quiet F.plain_extend_loop _, fin _ s.toks _ gS5 fun b o nb e => ?_⟩
  exact (Heap.get?_update_other _ _ (Ne.symm nb)).trans ((Heap.get?_update_other _ _ (Ne.symm nb)).trans e)
end
end Mine
namespace Mine
open PySem PySem.Spec PySem.Calls PyProof.Rows PySem.W
set_option linter.unusedVariables false
set_option maxRecDepth 100000

section
variable {prog : Program} {w : World} {A : Around} {E : Value → Shared → Prop} {s : Shared}
theorem ltPair_ok {a b : Addr} {x1 x2 y1 y2 : Int} {t1 t2 u1 u2 : Tok} {n m : Nat} {Q : Value → Shared → Prop} (hu : A.units < cLine) (ga : s.heap.get? a = some (tupO #[.int x1 t1, .int x2 t2] n)) (gb : s.heap.get? b = some (tupO #[.int y1 u1, .int y2 u2] m))
    (h : Q (.bool (decide (x1 < y1) || (decide (x1 = y1) && decide (x2 < y2)))) s) : wpAny (model prog w) A (compareOp .Lt (.ref a) (.ref b)) Q E s := by
  have hTa : s.TypeIs (.ref a) "tuple" := ⟨_, ga, rfl⟩
  have hTb : s.TypeIs (.ref b) "tuple" := ⟨_, gb, rfl⟩
  show wpAny _ A (richCompare .Lt (.ref a) (.ref b)) Q E s
  refine wpAny_richCompare_same_room (op := .Lt) hTa hTb F.slot_tuple_lt (wpAny_call_entry F.slot_tuple_lt hTa F.entry_tuple_lt ?_ (F.args_tuple_lt_2 _ _)) hu
  show wpAny _ A.in1 (isInstance (.ref b) (.type "tuple") >>= _) _ _ s
  refine wpAny_bind (wpAny_isInstance hTb isSubtype_tuple_tuple ?_)
  simp only [Bool.not_true, Bool.false_eq_true, if_false]
  refine wpAny_bind (wpAny_tupleItemsOf ga rfl (wpAny_bind (wpAny_tupleItemsOf gb rfl ?_)))
  refine wpAny_bind ?_
  show wpAny _ _ (forIn [(Value.int x1 t1, Value.int y1 u1), (Value.int x2 t2, Value.int y2 u2)] _ _) _ _ s
  rw [List.forIn_cons]
  refine wpAny_bind (wpAny_bind (wpAny_eqBool_int ?_))
  by_cases e1 : x1 = y1
  · subst e1
    rw [if_neg (by simp)]
    refine wpAny_pure ?_
    show wpAny _ _ (forIn [(Value.int x2 t2, Value.int y2 u2)] _ _) _ _ s
    rw [List.forIn_cons]
    refine wpAny_bind (wpAny_bind (wpAny_eqBool_int ?_))
    by_cases e2 : x2 = y2
    · subst e2
      rw [if_neg (by simp)]
      refine wpAny_pure ?_
      show wpAny _ _ (forIn [] _ _) _ _ s
      rw [List.forIn_nil]
      refine wpAny_pure ?_
      show wpAny _ _ (ret (.bool false)) _ _ s
      exact wpAny_pure ⟨_, rfl, (fun q => by cases q), by simpa using h⟩
    · rw [if_pos (by simp [e2])]
      refine wpAny_bind (wpAny_rule (wpAny_bind ?_))
      show wpAny _ _ (compareOp .Lt (.int x2 t2) (.int y2 u2)) _ _ s
      exact P.lt_int (wpAny_bind (wpAny_pure (wpAny_pure (wpAny_pure (wpAny_pure ⟨_, rfl, (fun q => by cases q), by simpa using h⟩)))))
  · rw [if_pos (by simp [e1])]
    refine wpAny_bind (wpAny_rule (wpAny_bind ?_))
    show wpAny _ _ (compareOp .Lt (.int x1 t1) (.int y1 u1)) _ _ s
    exact P.lt_int (wpAny_bind (wpAny_pure (wpAny_pure (wpAny_pure (wpAny_pure ⟨_, rfl, (fun q => by cases q), by simpa [e1] using h⟩)))))
end
end Mine
namespace Mine
open PySem PySem.Spec PySem.Calls PyProof.Rows PySem.W
set_option linter.unusedVariables false

noncomputable abbrev Sc := List (Str × NameKind)
noncomputable abbrev Ph := List (Str × D)
noncomputable abbrev Fn := Str → List D → Option D

mutual
noncomputable def toPy : D → Option PyData
  | .none => some .none
  | .bool b => some (.bool b)
  | .int i => some (.int i)
  | .tup l => (toPyL l).map .tuple
  | .lst l => (toPyL l).map .list
  | .rng .. => none
  | .dct .. => none
  | .itm .. => none
  | .adr _ => none
noncomputable def toPyL : List D → Option (List PyData)
  | [] => some []
  | d :: l => match toPy d, toPyL l with
    | some p, some r => some (p :: r)
    | _, _ => none
end

noncomputable def eqD (a b : D) : Option Bool := match toPy a, toPy b with
  | some p, some q => if p.canLay0 && q.canLay0 && decide (p.depth ≤ 8) then some (PyData.eqv p q) else none
  | _, _ => none

noncomputable def cmpD : CmpOp → D → D → Option Bool
  | .Eq, .int a, .int b => some (a == b)
  | .NotEq, .int a, .int b => some (a != b)
  | .Lt, .int a, .int b => some (decide (a < b))
  | .LtE, .int a, .int b => some (decide (a ≤ b))
  | .Gt, .int a, .int b => some (decide (a > b))
  | .GtE, .int a, .int b => some (decide (a ≥ b))
  | .Is, .none, .none => some true
  | .Is, .int _, .none => some false
  | .Eq, .lst a, .lst b => eqD (.lst a) (.lst b)
  | .NotEq, .lst a, .lst b => (eqD (.lst a) (.lst b)).map (!·)
  | .Eq, .tup a, .tup b => eqD (.tup a) (.tup b)
  | .Eq, .bool a, .bool b => some (a == b)
  | .NotEq, .bool a, .bool b => some (a != b)
  | .Lt, .tup [.int a, .int b], .tup [.int c, .int d] => some (decide (a < c) || (decide (a = c) && decide (b < d)))
  | _, _, _ => none

noncomputable def rep (l : List D) : Nat → List D
  | 0 => []
  | n + 1 => l ++ rep l n

noncomputable def small (a : Int) : Bool := decide (-1073741824 < a) && decide (a < 1073741824)

noncomputable def binD : Operator → D → D → Option D
  | .Add, .int a, .int b => some (.int (a + b))
  | .Sub, .int a, .int b => some (.int (a - b))
  | .Mult, .int a, .int b => if small a then some (.int (a * b)) else none
  | .FloorDiv, .int a, .int b => if small b && decide (b ≠ 0) then some (.int (a.fdiv b)) else none
  | .Mod, .int a, .int b => if decide (b ≠ 0) then some (.int (a.fmod b)) else none
  | .Pow, .int a, .int b => if small a && decide (0 ≤ b) && small b && decide (b ≤ 1000000) then some (.int (a ^ b.toNat)) else none
  | .RShift, .int a, .int b => if decide (0 ≤ b) then some (.int (a.fdiv (2 ^ b.toNat))) else none
  | .LShift, .int a, .int b => if decide (0 ≤ b) && decide (b ≤ 1000) && decide (a.natAbs < 2 ^ 64) then some (.int (a * 2 ^ b.toNat)) else none
  | .BitXor, .int a, .int b => some (.int (Builtin.bitXor a b))
  | .Add, .lst a, .lst b => if decide (a.length + b.length ≤ 1000) then some (.lst (a ++ b)) else none
  | .Mult, .lst a, .int n => if decide (0 ≤ n) && decide (n ≤ 1000) && decide (a.length ≤ 1000) then some (.lst (rep a n.toNat)) else none
  | _, _, _ => none

noncomputable def truthD : D → Option Bool
  | .none => some false
  | .bool b => some b
  | .int i => some (i != 0)
  | .lst l => if decide (l.length ≤ 1000) then some (!l.isEmpty) else none
  | _ => none

noncomputable def evBool (f : Expr → Option D) (op : BoolOp) : List Expr → Option D
  | [] => none
  | [e] => f e
  | e :: r => (f e).bind fun d => (truthD d).bind fun b => match op, b with
    | .And, false => some d
    | .Or, true => some d
    | _, _ => evBool f op r

noncomputable def evCmp (f : Expr → Option D) (a : D) : List CmpOp → List Expr → Option D
  | [op], [e] => (f e).bind fun b => (cmpD op a b).map .bool
  | op :: op' :: ops, e :: e' :: es => (f e).bind fun b => (cmpD op a b).bind fun c => if c then evCmp f b (op' :: ops) (e' :: es) else some (.bool false)
  | _, _ => none

noncomputable def evs (f : Expr → Option D) : List Expr → Option (List D)
  | [] => some []
  | e :: r => match e with
    | .Starred .. => none
    | e => (f e).bind fun d => (evs f r).bind fun l => some (d :: l)

noncomputable def idxD (l : List D) (i : Int) : Option D := if decide (0 ≤ i) && decide (i < 1000000) then l[i.toNat]? else none

/-- a comprehension's target -/
noncomputable def setA (x : Str) (d : D) : Ph → Ph
  | [] => [(x, d)]
  | (y, e) :: r => if x == y then (x, d) :: r else (y, e) :: setA x d r

noncomputable def keyD (k : Int × Int) : D := .tup [.int k.1, .int k.2]
noncomputable def dget : List (Int × Int) → List D → Int × Int → Option D
  | k :: ks, v :: vs, q => if k = q then some v else dget ks vs q
  | _, _, _ => none
noncomputable def itemsD : D → Option (List D)
  | .lst l => if decide (l.length ≤ 1000) then some l else none
  | .rng a n => if decide (n ≤ 1000) && small a then some ((List.range n).map fun i => .int (a + (i : Nat))) else none
  | .dct ks _ => if decide (ks.length ≤ 1000) then some (ks.map keyD) else none
  | .itm ks vs => if decide (ks.length ≤ 1000) then some (List.zipWith (fun k v => .tup [keyD k, v]) ks vs) else none
  | _ => none

noncomputable def evIfs (f : Expr → Option D) : List Expr → Option Bool
  | [] => some true
  | e :: r => (f e).bind fun d => (truthD d).bind fun b => if b then evIfs f r else some false

noncomputable def catO (a b : Option (List D)) : Option (List D) := match a, b with
  | some x, some y => some (x ++ y)
  | _, _ => none

/-- a clause's target: a name, two names, or two and one -/
noncomputable def tgNames : Expr → List Str
  | .Name x _ => [x]
  | .Tuple [.Name x _, .Name y _] _ _ => [x, y]
  | .Tuple [.Tuple [.Name x _, .Name y _] _ _, .Name z _] _ _ => [x, y, z]
  | _ => []
noncomputable def bindT : Expr → D → Ph → Option Ph
  | .Name x _, d, φ => some (setA x d φ)
  | .Tuple [.Name x _, .Name y _] _ _, .tup [a, b], φ => some (setA y b (setA x a φ))
  | .Tuple [.Tuple [.Name x _, .Name y _] _ _, .Name z _] _ _, .tup [.tup [a, b], c], φ => some (setA z c (setA y b (setA x a φ)))
  | _, _, _ => none

/-- the turns over the items its of the first clause -/
noncomputable def evComp (f : Ph → Expr → Option D) (elt : Expr) : List Comprehension → List D → Ph → Option (List D)
  | [], _, _ => none
  | g :: gs, its, φ => match g with
    | ⟨tg, _, ifs, 0⟩ => its.foldr (fun d acc => catO
        ((bindT tg d φ).bind fun φ' => (evIfs (f φ') ifs).bind fun ok => if ok then
          (match gs with
            | [] => (f φ' elt).map fun r => [r]
            | g' :: gs' => (f φ' g'.iter).bind fun c => (itemsD c).bind fun its' => evComp f elt (g' :: gs') its' φ')
          else some []) acc) (some [])
    | _ => none

/-- the scope of a comprehension within a block of scope sc -/
noncomputable def scOk (sc : Sc) (names : Sc) : Bool := names.all fun p => match p.2 with
  | .local => names.lookup p.1 == some .local
  | .free => (sc.lookup p.1 == some .cell || sc.lookup p.1 == some .free) && names.lookup p.1 == some .free
  | .cell => false
  | _ => true
noncomputable def keepFree (names : Sc) (φ : Ph) : Ph := φ.filter fun p => names.lookup p.1 == some .free
noncomputable def targetsOk (names : Sc) : List Str → List Comprehension → Bool
  | _, [] => true
  | seen, ⟨tg, _, _, 0⟩ :: r => !(tgNames tg).isEmpty && (tgNames tg).all (fun x => names.lookup x == some .local && !(x == ("__debug__" : Str)) && !(x == ("__classdict__" : Str)) && !seen.contains x) && decide (tgNames tg).Nodup && targetsOk names (tgNames tg ++ seen) r
  | _, _ => false

/-- expressions without writes; calls by name through G -/
noncomputable def ev (G : Fn) : Nat → Sc → Ph → Expr → Option D
  | 0, _, _, _ => none
  | n + 1, sc, φ, e => match e with
    | .Constant (.int i) _ _ => some (.int i)
    | .Constant (.bool b) _ _ => some (.bool b)
    | .Constant .none _ _ => some .none
    | .Name x _ => φ.lookup x
    | .BinOp l op r _ => (ev G n sc φ l).bind fun a => (ev G n sc φ r).bind fun b => binD op a b
    | .UnaryOp .Not x _ => (ev G n sc φ x).bind fun a => (truthD a).map fun b => .bool (!b)
    | .BoolOp op vs _ => evBool (ev G n sc φ) op vs
    | .IfExp t a b _ => (ev G n sc φ t).bind fun c => (truthD c).bind fun k => if k then ev G n sc φ a else ev G n sc φ b
    | .Compare l ops cs _ => if lastMarks ops cs then none else (ev G n sc φ l).bind fun a => evCmp (ev G n sc φ) a ops cs
    | .List es _ => (evs (ev G n sc φ) es).bind fun l => if decide (l.length ≤ 1000) then some (.lst l) else none
    | .Tuple es _ _ => (evs (ev G n sc φ) es).bind fun l => if decide (l.length ≤ 1000) then some (.tup l) else none
    | .Subscript v i _ => match i with
      | .Slice none (some u) none _ => (ev G n sc φ v).bind fun a => (ev G n sc φ u).bind fun b => match a, b with
        | .lst l, .int k => if decide (0 ≤ k) && small k && decide (l.length ≤ 1000) then some (.lst (l.take k.toNat)) else none
        | _, _ => none
      | .Slice none none (some (.UnaryOp .USub (.Constant (.int 1) _ _) _)) _ => (ev G n sc φ v).bind fun a => match a with
        | .lst l => if decide (l.length ≤ 1000) then some (.lst l.reverse) else none
        | _ => none
      | .Slice .. => none
      | i => (ev G n sc φ v).bind fun a => (ev G n sc φ i).bind fun b => match a, b with
        | .lst l, .int k => idxD l k
        | .tup l, .int k => idxD l k
        | .dct ks vs, .tup [.int i, .int j] => dget ks vs (i, j)
        | _, _ => none
    | .Call (.Name f _) args [] _ => if sc.lookup f == some .globalImplicit then (evs (ev G n sc φ) args).bind fun l => G f l else none
    | .Call (.Attribute (.Name y py) m ap) [] [] p => if m == ("bit_length" : Str) && ap.endLine == p.line then (ev G n sc φ (.Name y py)).bind fun a => match a with
        | .int i => some (.int (Builtin.Int.intBits i))
        | _ => none
      else if m == ("items" : Str) && ap.endLine == p.line then (ev G n sc φ (.Name y py)).bind fun a => match a with
        | .dct ks vs => some (.itm ks vs)
        | _ => none
      else none
    | .ListComp elt gens scope _ => match gens with
      | [] => none
      | g :: gs => if scOk sc scope.names && targetsOk scope.names [] (g :: gs) && scope.kind == .function then
          (ev G n sc φ g.iter).bind fun c => (itemsD c).bind fun its => (evComp (ev G n scope.names) elt (g :: gs) its (keepFree scope.names φ)).bind fun l =>
            if decide (l.length ≤ 1000) then some (.lst l) else none
        else none
    | _ => none
end Mine
namespace Mine
open PySem PySem.Spec PySem.Calls PyProof.Rows PySem.W
open Sem (wp)
set_option linter.unusedVariables false

mutual
theorem Rp.reads {X : Addr → Prop} {h : Heap} : ∀ {d : D} {v : Value} {p : PyData}, Rp X h d v → toPy d = some p → ∃ as, Reads h v p as
  | .none, v, p, x, e => by simp only [Rp] at x; simp only [toPy, Option.some.injEq] at e; subst x e; exact ⟨_, .none⟩
  | .bool b, v, p, x, e => by simp only [Rp] at x; simp only [toPy, Option.some.injEq] at e; subst x e; exact ⟨_, .bool b⟩
  | .int i, v, p, x, e => by
    simp only [Rp] at x; obtain ⟨t, rfl⟩ := x; simp only [toPy, Option.some.injEq] at e; subst e; exact ⟨_, .int i t⟩
  | .tup l, v, p, x, e => by
    simp only [Rp] at x
    obtain ⟨a, vs, n, rfl, _, g, r⟩ := x
    simp only [toPy, Option.map_eq_some_iff] at e
    obtain ⟨q, e, rfl⟩ := e
    obtain ⟨as, ra⟩ := RpL.reads r e
    exact ⟨_, .tuple g rfl rfl ra⟩
  | .lst l, v, p, x, e => by
    simp only [Rp] at x
    obtain ⟨a, vs, n, rfl, _, g, r⟩ := x
    simp only [toPy, Option.map_eq_some_iff] at e
    obtain ⟨q, e, rfl⟩ := e
    obtain ⟨as, ra⟩ := RpL.reads r e
    exact ⟨_, .list g rfl rfl ra⟩
  | .rng .., _, _, _, e => by simp only [toPy] at e; cases e
  | .dct .., _, _, _, e => by simp only [toPy] at e; cases e
  | .itm .., _, _, _, e => by simp only [toPy] at e; cases e
  | .adr _, _, _, _, e => by simp only [toPy] at e; cases e
theorem RpL.reads {X : Addr → Prop} {h : Heap} : ∀ {l : List D} {vs : List Value} {p : List PyData}, RpL X h l vs → toPyL l = some p → ∃ as, ReadsAll h vs p as
  | [], _, _, x, e => by simp only [RpL] at x; simp only [toPyL, Option.some.injEq] at e; subst x e; exact ⟨_, .nil⟩
  | d :: l, _, _, x, e => by
    simp only [RpL] at x
    obtain ⟨v, r, rfl, a, b⟩ := x
    simp only [toPyL] at e
    split at e
    · rename_i p q e1 e2
      cases e
      obtain ⟨as, ra⟩ := Rp.reads a e1
      obtain ⟨bs, rb⟩ := RpL.reads b e2
      exact ⟨_, .cons ra rb⟩
    · cases e
end

section
variable {C : Cfg} {A : Around} {E : Value → Shared → Prop} {s : Shared} {X : Addr → Prop} {k : Nat}

theorem eqD_ok {a b : D} {va vb : Value} {c : Bool} {Q : Value → Shared → Prop} (K : Aok k A) (ra : Rp X s.heap a va) (rb : Rp X s.heap b vb) (e : eqD a b = some c) (h : Q (.bool c) s) :
    wpAny (model C.prog C.w) A (compareOp .Eq va vb) Q E s := by
  unfold eqD at e
  split at e
  · rename_i p q e1 e2
    split at e
    · rename_i hc
      cases e
      simp only [Bool.and_eq_true, decide_eq_true_eq] at hc
      obtain ⟨as, r1⟩ := ra.reads e1
      obtain ⟨bs, r2⟩ := rb.reads e2
      exact SeqAt.compareEq_reads r1 r2 hc.1.1 hc.1.2 (by have := K.units; have := Nat.min_le_left p.depth q.depth; omega) h
    · cases e
  · cases e
theorem neD_ok {a b : D} {va vb : Value} {c : Bool} {Q : Value → Shared → Prop} (K : Aok k A) (ra : Rp X s.heap a va) (rb : Rp X s.heap b vb) (e : eqD a b = some c) (h : Q (.bool (!c)) s) :
    wpAny (model C.prog C.w) A (compareOp .NotEq va vb) Q E s := by
  unfold eqD at e
  split at e
  · rename_i p q e1 e2
    split at e
    · rename_i hc
      cases e
      simp only [Bool.and_eq_true, decide_eq_true_eq] at hc
      obtain ⟨as, r1⟩ := ra.reads e1
      obtain ⟨bs, r2⟩ := rb.reads e2
      exact SeqAt.compareNe_reads r1 r2 hc.1.1 hc.1.2 (by have := K.units; have := Nat.min_le_left p.depth q.depth; omega) h
    · cases e
  · cases e

theorem Rp.int_inv {i : Int} {v : Value} {h : Heap} (x : Rp X h (.int i) v) : ∃ t, v = .int i t := by simpa only [Rp] using x
theorem Rp.bool_inv {b : Bool} {v : Value} {h : Heap} (x : Rp X h (.bool b) v) : v = .bool b := by simpa only [Rp] using x
theorem Rp.none_inv {v : Value} {h : Heap} (x : Rp X h .none v) : v = .none := by simpa only [Rp] using x
theorem Rp.lst_inv {l : List D} {v : Value} {h : Heap} (x : Rp X h (.lst l) v) : ∃ a vs n, v = .ref a ∧ ¬ X a ∧ h.get? a = some (lstO vs n) ∧ RpL X h l vs.toList := by simpa only [Rp] using x
theorem Rp.tup_inv {l : List D} {v : Value} {h : Heap} (x : Rp X h (.tup l) v) : ∃ a vs n, v = .ref a ∧ ¬ X a ∧ h.get? a = some (tupO vs n) ∧ RpL X h l vs.toList := by simpa only [Rp] using x
theorem Rp.rng_inv {a : Int} {n : Nat} {v : Value} {h : Heap} (x : Rp X h (.rng a n) v) : ∃ r b t u t', v = .ref r ∧ ¬ X r ∧ IsRange h r a b 1 t u t' ∧ (b - a).toNat = n ∧ -1073741824 < b ∧ b < 1073741824 := by simpa only [Rp] using x

theorem Rp.pair_inv {a b : Int} {v : Value} {h : Heap} (x : Rp X h (.tup [.int a, .int b]) v) : ∃ r t u n, v = .ref r ∧ ¬ X r ∧ h.get? r = some (tupO #[.int a t, .int b u] n) := by
  obtain ⟨r, vs, n, rfl, hx, g, y⟩ := x.tup_inv
  simp only [RpL, Rp] at y
  obtain ⟨v1, w1, e1, ⟨t, rfl⟩, v2, w2, rfl, ⟨u, rfl⟩, rfl⟩ := y
  have : vs = #[.int a t, .int b u] := by apply Array.toList_inj.mp; rw [e1]
  subst this
  exact ⟨r, t, u, n, rfl, hx, g⟩
theorem Rp.dct_inv {ks : List (Int × Int)} {l : List D} {v : Value} {h : Heap} (x : Rp X h (.dct ks l) v) : ∃ a es ep, v = .ref a ∧ ¬ X a ∧ (a == sysModules) = false ∧ h.get? a = some (dctO es ep) ∧ ks.Nodup ∧ KeysAt X h ks es.toList ∧ RpL X h l (es.toList.map (·.val)) := by simpa only [Rp] using x
theorem Rp.itm_inv {ks : List (Int × Int)} {l : List D} {v : Value} {h : Heap} (x : Rp X h (.itm ks l) v) : ∃ u a es ep, v = .ref u ∧ ¬ X u ∧ h.get? u = some (itvO a) ∧ ¬ X a ∧ (a == sysModules) = false ∧ h.get? a = some (dctO es ep) ∧ ks.Nodup ∧ KeysAt X h ks es.toList ∧ RpL X h l (es.toList.map (·.val)) := by simpa only [Rp] using x

/-- what cmpD tells, turned round -/
inductive CmpI : CmpOp → D → D → Bool → Prop
  | eqI (a b : Int) : CmpI .Eq (.int a) (.int b) (a == b)
  | neI (a b : Int) : CmpI .NotEq (.int a) (.int b) (a != b)
  | ltI (a b : Int) : CmpI .Lt (.int a) (.int b) (decide (a < b))
  | leI (a b : Int) : CmpI .LtE (.int a) (.int b) (decide (a ≤ b))
  | gtI (a b : Int) : CmpI .Gt (.int a) (.int b) (decide (a > b))
  | geI (a b : Int) : CmpI .GtE (.int a) (.int b) (decide (a ≥ b))
  | isN : CmpI .Is .none .none true
  | isI (a : Int) : CmpI .Is (.int a) .none false
  | eqL (a b : List D) (c : Bool) (e : eqD (.lst a) (.lst b) = some c) : CmpI .Eq (.lst a) (.lst b) c
  | neL (a b : List D) (c : Bool) (e : eqD (.lst a) (.lst b) = some c) : CmpI .NotEq (.lst a) (.lst b) (!c)
  | eqT (a b : List D) (c : Bool) (e : eqD (.tup a) (.tup b) = some c) : CmpI .Eq (.tup a) (.tup b) c
  | eqB (a b : Bool) : CmpI .Eq (.bool a) (.bool b) (a == b)
  | neB (a b : Bool) : CmpI .NotEq (.bool a) (.bool b) (a != b)
  | ltT (a b c d : Int) : CmpI .Lt (.tup [.int a, .int b]) (.tup [.int c, .int d]) (decide (a < c) || (decide (a = c) && decide (b < d)))
theorem no' {α : Type} {x : α} {P : Prop} (h : (none : Option α) = some x) : P := nomatch h
theorem ltT_inv {l m : List D} {c : Bool} (e : cmpD .Lt (.tup l) (.tup m) = some c) : CmpI .Lt (.tup l) (.tup m) c := by
  induction l using List.casesOn with
  | nil => exact no' e
  | cons x l => induction x using D.casesOn with
    | int a => induction l using List.casesOn with
      | nil => exact no' e
      | cons y l => induction y using D.casesOn with
        | int b => induction l using List.casesOn with
          | nil => induction m using List.casesOn with
            | nil => exact no' e
            | cons x m => induction x using D.casesOn with
              | int c => induction m using List.casesOn with
                | nil => exact no' e
                | cons y m => induction y using D.casesOn with
                  | int d => induction m using List.casesOn with
                    | nil => exact (Option.some.inj e) ▸ CmpI.ltT a b c d
                    | cons => exact no' e
                  | _ => exact no' e
              | _ => exact no' e
          | cons => exact no' e
        | _ => exact no' e
    | _ => exact no' e
theorem cmp_inv {op : CmpOp} {a b : D} {c : Bool} (e : cmpD op a b = some c) : CmpI op a b c := by
  induction op using CmpOp.casesOn with
  | Eq => induction a using D.casesOn with
    | int a => induction b using D.casesOn with
      | int b => exact (Option.some.inj e) ▸ CmpI.eqI a b
      | _ => exact no' e
    | bool a => induction b using D.casesOn with
      | bool b => exact (Option.some.inj e) ▸ CmpI.eqB a b
      | _ => exact no' e
    | lst a => induction b using D.casesOn with
      | lst b => exact CmpI.eqL a b c e
      | _ => exact no' e
    | tup a => induction b using D.casesOn with
      | tup b => exact CmpI.eqT a b c e
      | _ => exact no' e
    | _ => exact no' e
  | NotEq => induction a using D.casesOn with
    | int a => induction b using D.casesOn with
      | int b => exact (Option.some.inj e) ▸ CmpI.neI a b
      | _ => exact no' e
    | bool a => induction b using D.casesOn with
      | bool b => exact (Option.some.inj e) ▸ CmpI.neB a b
      | _ => exact no' e
    | lst a => induction b using D.casesOn with
      | lst b =>
        obtain ⟨c', e', rfl⟩ := Option.map_eq_some_iff.mp (show (eqD (.lst a) (.lst b)).map (!·) = some c from e)
        exact CmpI.neL a b c' e'
      | _ => exact no' e
    | _ => exact no' e
  | Lt => induction a using D.casesOn with
    | int a => induction b using D.casesOn with
      | int b => exact (Option.some.inj e) ▸ CmpI.ltI a b
      | _ => exact no' e
    | tup a => induction b using D.casesOn with
      | tup b => exact ltT_inv e
      | _ => induction a using List.casesOn with
        | nil => exact no' e
        | cons x a => induction x using D.casesOn with
          | int x => induction a using List.casesOn with
            | nil => exact no' e
            | cons y a => induction y using D.casesOn with
              | int y => induction a using List.casesOn with
                | nil => exact no' e
                | cons => exact no' e
              | _ => exact no' e
          | _ => exact no' e
    | _ => exact no' e
  | LtE => induction a using D.casesOn with
    | int a => induction b using D.casesOn with
      | int b => exact (Option.some.inj e) ▸ CmpI.leI a b
      | _ => exact no' e
    | _ => exact no' e
  | Gt => induction a using D.casesOn with
    | int a => induction b using D.casesOn with
      | int b => exact (Option.some.inj e) ▸ CmpI.gtI a b
      | _ => exact no' e
    | _ => exact no' e
  | GtE => induction a using D.casesOn with
    | int a => induction b using D.casesOn with
      | int b => exact (Option.some.inj e) ▸ CmpI.geI a b
      | _ => exact no' e
    | _ => exact no' e
  | Is => induction a using D.casesOn with
    | none => induction b using D.casesOn with
      | none => exact (Option.some.inj e) ▸ CmpI.isN
      | _ => exact no' e
    | int a => induction b using D.casesOn with
      | none => exact (Option.some.inj e) ▸ CmpI.isI a
      | _ => exact no' e
    | _ => exact no' e
  | _ => exact no' e

theorem cmp_ok {op : CmpOp} {a b : D} {va vb : Value} {c : Bool} {Q : Value → Shared → Prop} (K : Aok k A) (ra : Rp X s.heap a va) (rb : Rp X s.heap b vb) (e : cmpD op a b = some c) (h : Q (.bool c) s) :
    wpAny (model C.prog C.w) A (compareOp op va vb) Q E s := by
  cases cmp_inv e with
  | eqI => obtain ⟨t, rfl⟩ := ra.int_inv; obtain ⟨u, rfl⟩ := rb.int_inv; exact P.eq_int h
  | neI => obtain ⟨t, rfl⟩ := ra.int_inv; obtain ⟨u, rfl⟩ := rb.int_inv; exact P.ne_int h
  | ltI => obtain ⟨t, rfl⟩ := ra.int_inv; obtain ⟨u, rfl⟩ := rb.int_inv; exact P.lt_int h
  | leI => obtain ⟨t, rfl⟩ := ra.int_inv; obtain ⟨u, rfl⟩ := rb.int_inv; exact P.le_int h
  | gtI => obtain ⟨t, rfl⟩ := ra.int_inv; obtain ⟨u, rfl⟩ := rb.int_inv; exact P.gt_int h
  | geI => obtain ⟨t, rfl⟩ := ra.int_inv; obtain ⟨u, rfl⟩ := rb.int_inv; exact P.ge_int h
  | isN => obtain rfl := ra.none_inv; obtain rfl := rb.none_inv; exact wpAny_is_self rfl h
  | isI => obtain ⟨t, rfl⟩ := ra.int_inv; obtain rfl := rb.none_inv; exact wpAny_is_other rfl (fun q => nomatch q) h
  | eqL _ _ _ e2 => exact eqD_ok K ra rb e2 h
  | neL _ _ _ e2 => exact neD_ok K ra rb e2 h
  | eqT _ _ _ e2 => exact eqD_ok K ra rb e2 h
  | eqB =>
    obtain rfl := ra.bool_inv; obtain rfl := rb.bool_inv
    exact SeqAt.compareEq_reads (.bool _) (.bool _) rfl rfl (by have := K.units; simp [PyData.depth]; omega) (by simpa [PyData.eqv] using h)
  | neB =>
    obtain rfl := ra.bool_inv; obtain rfl := rb.bool_inv
    exact SeqAt.compareNe_reads (.bool _) (.bool _) rfl rfl (by have := K.units; simp [PyData.depth]; omega) (by simpa [PyData.eqv, bne] using h)
  | ltT =>
    obtain ⟨r1, _, _, _, rfl, _, g1⟩ := ra.pair_inv
    obtain ⟨r2, _, _, _, rfl, _, g2⟩ := rb.pair_inv
    exact ltPair_ok K.lt g1 g2 h

theorem RpL.isEmpty {h : Heap} {l : List D} {vs : Array Value} (r : RpL X h l vs.toList) : vs.isEmpty = l.isEmpty := by
  rw [← Array.isEmpty_toList]
  induction l using List.casesOn with
  | nil => simp only [RpL] at r; rw [r]; rfl
  | cons d l => simp only [RpL] at r; obtain ⟨v, w, e, _⟩ := r; rw [e]; rfl

theorem truth_ok {a : D} {v : Value} {c : Bool} {Q : Bool → Shared → Prop} (ra : Rp X s.heap a v) (e : truthD a = some c) (h : ∀ tk, Q c { s with toks := tk }) :
    wpAny (model C.prog C.w) A (truthy v) Q E s := by
  unfold truthD at e
  split at e
  · cases e; obtain rfl := ra.none_inv; exact truthy_none (h s.toks)
  · cases e; obtain rfl := ra.bool_inv; exact wpAny_truthy_bool (h s.toks)
  · cases e; obtain ⟨t, rfl⟩ := ra.int_inv; exact P.truthy_int (h s.toks)
  · split at e
    · rename_i hc
      cases e
      obtain ⟨a', vs, n, rfl, _, g, r⟩ := ra.lst_inv
      have hl := r.length
      simp only [decide_eq_true_eq] at hc
      refine wpAny_truthy_list (items := vs) ⟨_, g, rfl, n, rfl⟩ (by have : vs.size = vs.toList.length := by simp
                                                                     omega) ?_
      have e2 := r.isEmpty
      rw [e2]
      exact h _
    · cases e
  · cases e

/-- what a pure step gives back -/
noncomputable abbrev Ret (C : Cfg) (X : Addr → Prop) (s : Shared) (d : D) (Q : Value → Shared → Prop) : Prop :=
  ∀ v h' tk, HOk C h' → Kp C.Tb s.heap h' → Rp X h' d v → Q v { s with heap := h', toks := tk }

theorem Ret.same {d : D} {Q : Value → Shared → Prop} (r : Ret C X s d Q) (H : HOk C s.heap) {v : Value} (x : Rp X s.heap d v) (tk : Nat) : Q v { s with toks := tk } := r v s.heap tk H .refl x
theorem Ret.newL {l : List D} {Q : Value → Shared → Prop} (r : Ret C X s (.lst l) Q) (H : HOk C s.heap) (x : XOk C X s.heap) {vs : Array Value} (y : RpL X s.heap l vs.toList) (tk : Nat) :
    Q (.ref s.heap.objs.size) { s with heap := s.heap.push (lstO vs 0), toks := tk } :=
  r _ _ tk (H.push _) (.push _) (by
    simp only [Rp]
    exact ⟨_, vs, 0, rfl, x.fresh, Heap.get?_push_size _ rfl, y.kp (Y := X) (.push _) fun _ q => q⟩)
theorem Ret.newT {l : List D} {Q : Value → Shared → Prop} (r : Ret C X s (.tup l) Q) (H : HOk C s.heap) (x : XOk C X s.heap) {vs : Array Value} (y : RpL X s.heap l vs.toList) (tk : Nat) :
    Q (.ref s.heap.objs.size) { s with heap := s.heap.push (tupO vs 0), toks := tk } :=
  r _ _ tk (H.push _) (.push _) (by
    simp only [Rp]
    exact ⟨_, vs, 0, rfl, x.fresh, Heap.get?_push_size _ rfl, y.kp (Y := X) (.push _) fun _ q => q⟩)

noncomputable def repV (vs : List Value) : Nat → List Value
  | 0 => []
  | n + 1 => vs ++ repV vs n
theorem rep_ok {h : Heap} {l : List D} {vs : List Value} (y : RpL X h l vs) : ∀ n, RpL X h (rep l n) (repV vs n)
  | 0 => by simp only [rep, repV, RpL]
  | n + 1 => by simp only [rep, repV]; exact y.append (rep_ok y n)
theorem rep_fold (vs : Array Value) : ∀ (n : Nat) (acc : Array Value), (List.foldl (fun x1 x2 => x1 ++ x2) acc (List.replicate n vs)).toList = acc.toList ++ repV vs.toList n
  | 0, acc => by simp [repV]
  | n + 1, acc => by
    rw [List.replicate_succ, List.foldl_cons, rep_fold vs n]
    simp [repV]
theorem rep_nil : ∀ n, repV [] n = []
  | 0 => rfl
  | n + 1 => by simp [repV, rep_nil n]

theorem if' {α : Type} {c : Prop} [Decidable c] {x y : α} (h : (if c then some x else none) = some y) : c ∧ x = y := by
  by_cases q : c
  · rw [if_pos q] at h; exact ⟨q, Option.some.inj h⟩
  · rw [if_neg q] at h; exact no' h
/-- what binD tells, turned round -/
inductive BinI : Operator → D → D → D → Prop
  | add (a b : Int) : BinI .Add (.int a) (.int b) (.int (a + b))
  | sub (a b : Int) : BinI .Sub (.int a) (.int b) (.int (a - b))
  | mul (a b : Int) (q : small a = true) : BinI .Mult (.int a) (.int b) (.int (a * b))
  | fdiv (a b : Int) (q : (small b && decide (b ≠ 0)) = true) : BinI .FloorDiv (.int a) (.int b) (.int (a.fdiv b))
  | mod (a b : Int) (q : decide (b ≠ 0) = true) : BinI .Mod (.int a) (.int b) (.int (a.fmod b))
  | pow (a b : Int) (q : (small a && decide (0 ≤ b) && small b && decide (b ≤ 1000000)) = true) : BinI .Pow (.int a) (.int b) (.int (a ^ b.toNat))
  | shr (a b : Int) (q : decide (0 ≤ b) = true) : BinI .RShift (.int a) (.int b) (.int (a.fdiv (2 ^ b.toNat)))
  | shl (a b : Int) (q : (decide (0 ≤ b) && decide (b ≤ 1000) && decide (a.natAbs < 2 ^ 64)) = true) : BinI .LShift (.int a) (.int b) (.int (a * 2 ^ b.toNat))
  | xor (a b : Int) : BinI .BitXor (.int a) (.int b) (.int (Builtin.bitXor a b))
  | cat (a b : List D) (q : decide (a.length + b.length ≤ 1000) = true) : BinI .Add (.lst a) (.lst b) (.lst (a ++ b))
  | rep (a : List D) (n : Int) (q : (decide (0 ≤ n) && decide (n ≤ 1000) && decide (a.length ≤ 1000)) = true) : BinI .Mult (.lst a) (.int n) (.lst (rep a n.toNat))
theorem bin_inv {op : Operator} {a b d : D} (e : binD op a b = some d) : BinI op a b d := by
  induction op using Operator.casesOn with
  | Add => induction a using D.casesOn with
    | int a => induction b using D.casesOn with
      | int b => exact (Option.some.inj e) ▸ BinI.add a b
      | _ => exact no' e
    | lst a => induction b using D.casesOn with
      | lst b => exact (if' e).2 ▸ BinI.cat a b (if' e).1
      | _ => exact no' e
    | _ => exact no' e
  | Mult => induction a using D.casesOn with
    | int a => induction b using D.casesOn with
      | int b => exact (if' e).2 ▸ BinI.mul a b (if' e).1
      | _ => exact no' e
    | lst a => induction b using D.casesOn with
      | int n => exact (if' e).2 ▸ BinI.rep a n (if' e).1
      | _ => exact no' e
    | _ => exact no' e
  | Sub => induction a using D.casesOn with
    | int a => induction b using D.casesOn with
      | int b => exact (Option.some.inj e) ▸ BinI.sub a b
      | _ => exact no' e
    | _ => exact no' e
  | FloorDiv => induction a using D.casesOn with
    | int a => induction b using D.casesOn with
      | int b => exact (if' e).2 ▸ BinI.fdiv a b (if' e).1
      | _ => exact no' e
    | _ => exact no' e
  | Mod => induction a using D.casesOn with
    | int a => induction b using D.casesOn with
      | int b => exact (if' e).2 ▸ BinI.mod a b (if' e).1
      | _ => exact no' e
    | _ => exact no' e
  | Pow => induction a using D.casesOn with
    | int a => induction b using D.casesOn with
      | int b => exact (if' e).2 ▸ BinI.pow a b (if' e).1
      | _ => exact no' e
    | _ => exact no' e
  | RShift => induction a using D.casesOn with
    | int a => induction b using D.casesOn with
      | int b => exact (if' e).2 ▸ BinI.shr a b (if' e).1
      | _ => exact no' e
    | _ => exact no' e
  | LShift => induction a using D.casesOn with
    | int a => induction b using D.casesOn with
      | int b => exact (if' e).2 ▸ BinI.shl a b (if' e).1
      | _ => exact no' e
    | _ => exact no' e
  | BitXor => induction a using D.casesOn with
    | int a => induction b using D.casesOn with
      | int b => exact (Option.some.inj e) ▸ BinI.xor a b
      | _ => exact no' e
    | _ => exact no' e
  | _ => exact no' e
theorem bin_ok {op : Operator} {a b d : D} {va vb : Value} {Q : Value → Shared → Prop} (K : Aok k A) (H : HOk C s.heap) (x : XOk C X s.heap) (ra : Rp X s.heap a va) (rb : Rp X s.heap b vb) (e : binD op a b = some d) (h : Ret C X s d Q) :
    wpAny (model C.prog C.w) A (binaryOp op va vb) Q E s := by
  have mk : ∀ (i : Int) (t tk : Nat), d = .int i → Q (.int i t) { s with toks := tk } := fun i t tk q => by subst q; exact h.same H (by simp only [Rp]; exact ⟨t, rfl⟩) tk
  have ssm : ∀ {i : Int}, small i = true → i.natAbs < 1073741824 := fun {i} q => by simp only [small, Bool.and_eq_true, decide_eq_true_eq] at q; omega
  cases bin_inv e with
  | add => obtain ⟨t, rfl⟩ := ra.int_inv; obtain ⟨u, rfl⟩ := rb.int_inv; exact P.add_int (mk _ _ _ rfl)
  | sub => obtain ⟨t, rfl⟩ := ra.int_inv; obtain ⟨u, rfl⟩ := rb.int_inv; exact P.sub_int (mk _ _ _ rfl)
  | mul a b q =>
    obtain ⟨t, rfl⟩ := ra.int_inv; obtain ⟨u, rfl⟩ := rb.int_inv
    have := ssm q
    exact P.mul_int (mk _ _ _ rfl) (IntMulOk.of_left (intBits_le (by omega)))
  | fdiv a b q =>
    obtain ⟨t, rfl⟩ := ra.int_inv; obtain ⟨u, rfl⟩ := rb.int_inv
    simp only [Bool.and_eq_true, decide_eq_true_eq] at q
    exact floordiv_int q.2 (mk _ _ _ rfl) (.inl (PyProof.noPylong_small (ssm q.1)))
  | mod a b q =>
    obtain ⟨t, rfl⟩ := ra.int_inv; obtain ⟨u, rfl⟩ := rb.int_inv
    exact mod_int (of_decide_eq_true q) (mk _ _ _ rfl)
  | pow a b q =>
    obtain ⟨t, rfl⟩ := ra.int_inv; obtain ⟨u, rfl⟩ := rb.int_inv
    simp only [Bool.and_eq_true, decide_eq_true_eq] at q
    have := ssm q.1.1.1
    exact pow_int_small q.1.1.2 q.2 (by omega) (mk _ _ _ rfl)
  | shr a b q =>
    obtain ⟨t, rfl⟩ := ra.int_inv; obtain ⟨u, rfl⟩ := rb.int_inv
    exact rshift_int (of_decide_eq_true q) (mk _ _ _ rfl)
  | shl a b q =>
    obtain ⟨t, rfl⟩ := ra.int_inv; obtain ⟨u, rfl⟩ := rb.int_inv
    simp only [Bool.and_eq_true, decide_eq_true_eq] at q
    exact lshift_int_small q.1.1 (by omega) q.2 (mk _ _ _ rfl)
  | xor => obtain ⟨t, rfl⟩ := ra.int_inv; obtain ⟨u, rfl⟩ := rb.int_inv; exact xor_int (mk _ _ _ rfl)
  | cat l1 l2 q =>
      obtain ⟨a1, vs1, n1, rfl, _, g1, r1⟩ := ra.lst_inv
      obtain ⟨a2, vs2, n2, rfl, _, g2, r2⟩ := rb.lst_inv
      simp only [decide_eq_true_eq] at q
      have h1 := r1.length
      have h2 := r2.length
      refine P.add_list g1 g2 (h.newL H x (vs := vs1 ++ vs2) (by simpa using r1.append r2) s.toks) (by rw [sizeLine_eq]; simp only [Array.length_toList] at h1 h2; omega)
  | rep l1 n q =>
      obtain ⟨a1, vs1, n1, rfl, _, g1, r1⟩ := ra.lst_inv
      obtain ⟨u, rfl⟩ := rb.int_inv
      simp only [Bool.and_eq_true, decide_eq_true_eq] at q
      have h1 := r1.length
      simp only [Array.length_toList] at h1
      have hm : vs1.size * n.toNat ≤ 1000 * 1000 := Nat.mul_le_mul (by omega) (by omega)
      refine wpAny_binaryOp_repeat_ref (T := "list") (U := "int") (by decide) ⟨_, g1, rfl⟩ (fun s' => typeIs_int s' n u) noFill_list_mul F.fills_int_mul F.slot_int_rmul repeat_list F.slot_int_index.lookup
        (call_meets F.slot_int_rmul (typeIs_int s n u) F.entry_int_rmul (F.args_int_rmul_2 _ _) (int___rmul___int_list n u a1 vs1 n1)
          ⟨g1, rfl, ⟨_, g1, rfl⟩, call_meets F.slot_list_mul ⟨_, g1, rfl⟩ F.entry_list_mul (F.args_list_mul_2 _ _)
            (AutoListH.list___mul___list_int_3 a1 vs1 n1 n u (by simp [Builtin.List.listFitsIndex]; omega) (by omega) (by simp [Builtin.List.listTooLong, sizeLine]; omega))
            ⟨g1, ?_⟩⟩)
      refine h.newL H x ?_ s.toks
      rw [rep_fold]
      cases q2 : vs1.isEmpty with
      | true =>
        have e0 : vs1.toList = [] := by rw [← Array.isEmpty_toList] at q2; exact List.isEmpty_iff.mp q2
        have := rep_ok r1 n.toNat
        rw [e0, rep_nil] at this
        simpa [repV] using this
      | false => simpa using rep_ok r1 n.toNat
end
end Mine
namespace Mine
open PySem PySem.Spec PySem.Calls PyProof.Rows PySem.W
open Sem (wp)
set_option linter.unusedVariables false

/-- the frame: its scope's names sc, what its names bear φ -/
structure EnvOk (C : Cfg) (X : Addr → Prop) (sc : Sc) (env : Env) (φ : Ph) (h : Heap) : Prop where
  fn : env.scope.kind = .function
  gl : env.globals = mainGlobals
  bl : env.builtins = builtinsNs
  nl : ¬ C.Tb env.locals
  xl : X env.locals
  nc : ∀ x c, env.cells.lookup x = some c → ¬ C.Tb c
  xc : ∀ x c, env.cells.lookup x = some c → X c
  kd : ∀ x, env.kindOf x = sc.lookup x ∨ (sc.lookup x = some .free ∧ env.kindOf x = some .cell)
  cl : ∀ x, sc.lookup x = some .cell ∨ sc.lookup x = some .free → ∃ c, env.cells.lookup x = some c
  ld : ∀ x d, φ.lookup x = some d → (x == ("__debug__" : Str)) = false ∧ (x == ("__classdict__" : Str)) = false ∧ ∃ v, Rp X h d v ∧
    ((sc.lookup x = some .local ∧ ∃ m, h.Ns env.locals m ∧ m x = some v) ∨ ((sc.lookup x = some .cell ∨ sc.lookup x = some .free) ∧ ∃ c, env.cells.lookup x = some c ∧ h.IsCell c (some v)))

theorem EnvOk.kpY {C : Cfg} {X Y : Addr → Prop} {sc : Sc} {env : Env} {φ : Ph} {h h' : Heap} (x : EnvOk C X sc env φ h) (k : Kp Y h h') (t : ∀ b, Y b → X b) (nl : ¬ Y env.locals)
    (nc : ∀ x c, env.cells.lookup x = some c → ¬ Y c) : EnvOk C X sc env φ h' :=
  ⟨x.fn, x.gl, x.bl, x.nl, x.xl, x.nc, x.xc, x.kd, x.cl, fun y d e => by
    obtain ⟨h1, h2, v, r, q⟩ := x.ld y d e
    refine ⟨h1, h2, v, r.kp k t, q.imp (fun ⟨a, m, hn, hm⟩ => ⟨a, m, ?_, hm⟩) fun ⟨a, c, hc, o, ho, hd⟩ => ⟨a, c, hc, o, k c o (nc y c hc) ho, hd⟩⟩
    obtain ⟨o, es, ep, ho, r⟩ := hn
    exact ⟨o, es, ep, k _ o nl ho, r⟩⟩
theorem EnvOk.kp {C : Cfg} {X : Addr → Prop} {sc : Sc} {env : Env} {φ : Ph} {h h' : Heap} (x : EnvOk C X sc env φ h) (t : ∀ b, C.Tb b → X b) (k : Kp C.Tb h h') : EnvOk C X sc env φ h' := x.kpY k t x.nl x.nc
theorem EnvOk.av {C : Cfg} {X X' : Addr → Prop} {sc : Sc} {env : Env} {φ : Ph} {h : Heap} (x : EnvOk C X sc env φ h) (s : ∀ b o, h.get? b = some o → X' b → X b) (g : ∀ b, X b → X' b) : EnvOk C X' sc env φ h :=
  ⟨x.fn, x.gl, x.bl, x.nl, g _ x.xl, x.nc, fun y c e => g _ (x.xc y c e), x.kd, x.cl, fun y d e => by
    obtain ⟨h1, h2, v, r, q⟩ := x.ld y d e
    exact ⟨h1, h2, v, r.av s, q⟩⟩

theorem Ns_unique {h : Heap} {a : Addr} {m m' : Str → Option Value} (x : h.Ns a m) (y : h.Ns a m') : m = m' := by
  obtain ⟨o, es, ep, e, d, _, f⟩ := x
  obtain ⟨o', es', ep', e', d', _, f'⟩ := y
  rw [e] at e'; cases e'
  rw [d] at d'; cases d'
  funext z
  rw [← f z, f' z]
theorem lookup_setA {x y : Str} {d : D} : ∀ {φ : Ph}, (setA x d φ).lookup y = if y = x then some d else φ.lookup y
  | [] => by
    simp only [setA, List.lookup_cons, List.lookup_nil]
    by_cases q : y = x
    · subst q; simp
    · simp [q, beq_eq_false_iff_ne.mpr q]
  | (z, e) :: r => by
    unfold setA
    by_cases q : x = z
    · subst q
      simp only [beq_self_eq_true, if_true, List.lookup_cons]
      by_cases q : y = x
      · subst q; simp
      · simp [q, beq_eq_false_iff_ne.mpr q]
    · simp only [beq_eq_false_iff_ne.mpr q, Bool.false_eq_true, if_false, List.lookup_cons]
      by_cases q2 : y = z
      · subst q2
        simp [Ne.symm q]
      · simp only [beq_eq_false_iff_ne.mpr q2]
        exact lookup_setA

noncomputable def okName (x : Str) : Bool := !(x == ("__debug__" : Str)) && !(x == ("__classdict__" : Str))

/-- a local name is stored -/
theorem EnvOk.store {C : Cfg} {X : Addr → Prop} {sc : Sc} {env : Env} {φ : Ph} {h h' : Heap} {x : Str} {d : D} {v : Value} {m : Str → Option Value} (e : EnvOk C X sc env φ h) (hx : sc.lookup x = some .local) (ok : okName x = true)
    (hn : h.Ns env.locals m) (hn' : h'.Ns env.locals (fun y => if y = x then some v else m y)) (hs : Heap.SameBut env.locals h h') (r : Rp X h d v) : EnvOk C X sc env (setA x d φ) h' := by
  have kk : Kp (fun b => b = env.locals) h h' := .same hs rfl
  have ss : ∀ b, (fun b => b = env.locals) b → X b := fun b q => q ▸ e.xl
  simp only [okName, Bool.and_eq_true, Bool.not_eq_true'] at ok
  refine ⟨e.fn, e.gl, e.bl, e.nl, e.xl, e.nc, e.xc, e.kd, e.cl, fun y d' ey => ?_⟩
  rw [lookup_setA] at ey
  by_cases q : y = x
  · subst q
    rw [if_pos rfl] at ey; cases ey
    exact ⟨ok.1, ok.2, v, r.kp kk ss, .inl ⟨hx, _, hn', by simp⟩⟩
  · rw [if_neg q] at ey
    obtain ⟨h1, h2, u, ru, z⟩ := e.ld y d' ey
    refine ⟨h1, h2, u, ru.kp kk ss, z.imp (fun ⟨a, m', hm', e'⟩ => ⟨a, _, hn', by rw [if_neg q, Ns_unique hn hm']; exact e'⟩) fun ⟨a, c, hc, o, ho, hd⟩ => ⟨a, c, hc, o, kk c o (fun w => ?_) ho, hd⟩⟩
    obtain ⟨o', _, _, ho', hd', _⟩ := hn
    rw [show c = env.locals from w, ho'] at ho; cases ho
    rw [hd'] at hd; cases hd
theorem EnvOk.forget {C : Cfg} {X : Addr → Prop} {sc : Sc} {env : Env} {φ : Ph} {h : Heap} {x : Str} {d : D} (e : EnvOk C X sc env (setA x d φ) h) (n : φ.lookup x = none) : EnvOk C X sc env φ h :=
  ⟨e.fn, e.gl, e.bl, e.nl, e.xl, e.nc, e.xc, e.kd, e.cl, fun y d' ey => e.ld y d' (by rw [lookup_setA, if_neg (fun q => by rw [q, n] at ey; cases ey)]; exact ey)⟩

structure St (C : Cfg) (X : Addr → Prop) (sc : Sc) (env : Env) (φ : Ph) (h : Heap) : Prop where
  H : HOk C h
  x : XOk C X h
  e : EnvOk C X sc env φ h
theorem St.kp {C : Cfg} {X : Addr → Prop} {sc : Sc} {env : Env} {φ : Ph} {h h' : Heap} (S : St C X sc env φ h) (H : HOk C h') (k : Kp C.Tb h h') : St C X sc env φ h' := ⟨H, S.x.kp H k, S.e.kp S.x.tb k⟩

/-- what the base heap says of names -/
structure CfgOk (C : Cfg) : Prop where
  g : C.B.Ns mainGlobals C.mg
  b : C.B.Ns builtinsNs C.mb
  nolimit : C.B.NoLimit
noncomputable def Gval (C : Cfg) (f : Str) (v : Value) : Prop := C.mg f = some v ∨ (C.mg f = none ∧ C.mb f = some v)
noncomputable def Keepable (C : Cfg) (v : Value) : Prop := ∀ h, HOk C h → ∃ k, (k = Keeper.frame ∨ k = Keeper.machine ∨ k = Keeper.boundFrame) ∧ Looks (model C.prog C.w) h (keeperOf v) k

noncomputable abbrev RetB (C : Cfg) (s : Shared) (b : Bool) (Q : Bool → Shared → Prop) : Prop := ∀ h' tk, HOk C h' → Kp C.Tb s.heap h' → Q b { s with heap := h', toks := tk }
noncomputable abbrev RetL (C : Cfg) (X : Addr → Prop) (s : Shared) (l : List D) (Q : List Value → Shared → Prop) : Prop :=
  ∀ vs h' tk, HOk C h' → Kp C.Tb s.heap h' → RpL X h' l vs → Q vs { s with heap := h', toks := tk }

/-- a call's contract: f on data gives data -/
noncomputable def CallOk (C : Cfg) (k : Nat) (fv : Value) (ds : List D) (r : D) : Prop :=
  ∀ (A : Around) (X : Addr → Prop) (vs : List Value) (s : Shared) (Q E : Value → Shared → Prop), Aok k A → HOk C s.heap → XOk C X s.heap → RpL X s.heap ds vs → Ret C X s r Q → wpAny (model C.prog C.w) A (call fv vs) Q E s
noncomputable def GOk (C : Cfg) (k : Nat) (G : Fn) : Prop := ∀ f ds r, G f ds = some r → (f == ("__debug__" : Str)) = false ∧ ∃ fv, Gval C f fv ∧ Keepable C fv ∧ CallOk C k fv ds r

section
variable {C : Cfg} {k : Nat} {X : Addr → Prop} {sc : Sc} {env : Env} {φ : Ph} {f : Expr → Option D}

noncomputable def FOk (C : Cfg) (k : Nat) (X : Addr → Prop) (sc : Sc) (env : Env) (φ : Ph) (f : Expr → Option D) : Prop :=
  ∀ e d, f e = some d → ∀ (A : Around) (s : Shared) (Q E : Value → Shared → Prop), Aok k A → St C X sc env φ s.heap → Ret C X s d Q → wpAny (model C.prog C.w) A (eval e env) Q E s
noncomputable def TOk (C : Cfg) (k : Nat) (X : Addr → Prop) (sc : Sc) (env : Env) (φ : Ph) (f : Expr → Option D) : Prop :=
  ∀ e d b, f e = some d → truthD d = some b → ∀ (A : Around) (s : Shared) (Q : Bool → Shared → Prop) (E : Value → Shared → Prop), Aok k A → St C X sc env φ s.heap → RetB C s b Q → wpAny (model C.prog C.w) A (isTrue e env (eval e env)) Q E s

theorem Name_ok {x : Str} {d : D} {pos : Pos} {A : Around} {s : Shared} {Q E : Value → Shared → Prop} (S : St C X sc env φ s.heap) (e : φ.lookup x = some d) (h : Ret C X s d Q) : wpAny (model C.prog C.w) A (eval (.Name x pos) env) Q E s := by
  obtain ⟨h1, h2, v, r, q⟩ := S.e.ld x d e
  refine wpAny_Name ?_ h1
  have fin := h.same S.H r s.toks
  rcases q with ⟨a, m, hn, hm⟩ | ⟨a, c, hc, hi⟩
  · refine wpAny_loadName_local S.e.fn ?_ hn hm fin
    rcases S.e.kd x with q | ⟨q, _⟩
    · rw [q]; exact a
    · rw [a] at q; cases q
  · have hk : env.kindOf x = some .cell ∨ env.kindOf x = some .free := by
      rcases S.e.kd x with q | ⟨_, q⟩
      · rw [q]; exact a
      · exact .inl q
    rcases hk with hk | hk
    · exact wpAny_loadName_cell S.e.fn hk hc hi fin
    · exact wpAny_loadName_free S.e.fn hk hc hi fin h2

theorem evs_cons' {f : Expr → Option D} {e : Expr} {es : List Expr} {l : List D} (h : evs f (e :: es) = some l) : (∀ env, starEach (e :: es) env = (false, eval e env) :: starEach es env) ∧ ∃ d l', f e = some d ∧ evs f es = some l' ∧ l = d :: l' := by
  have key : ∀ x : Option D, (x.bind fun d => (evs f es).bind fun l => some (d :: l)) = some l → ∃ d l', x = some d ∧ evs f es = some l' ∧ l = d :: l' := fun x h => by
    obtain ⟨d, h1, h⟩ := Option.bind_eq_some_iff.mp h
    obtain ⟨l', h2, h⟩ := Option.bind_eq_some_iff.mp h
    exact ⟨d, l', h1, h2, (Option.some.inj h).symm⟩
  induction e using Expr.casesOn with
  | Starred => exact no' h
  | _ => exact ⟨fun _ => rfl, key _ h⟩
theorem evs_cons {f : Expr → Option D} {env : Env} {e : Expr} {es : List Expr} {l : List D} (h : evs f (e :: es) = some l) : starEach (e :: es) env = (false, eval e env) :: starEach es env ∧ ∃ d l', f e = some d ∧ evs f es = some l' ∧ l = d :: l' := ⟨(evs_cons' h).1 env, (evs_cons' h).2⟩
theorem ev_Name {G : Fn} {n : Nat} {sc : Sc} {φ : Ph} {x : Str} {p : Pos} : ev G (n + 1) sc φ (.Name x p) = φ.lookup x := rfl
theorem evs_names1 {G : Fn} {n : Nat} {sc : Sc} {φ : Ph} {x : Str} {p : Pos} {d : D} (h : φ.lookup x = some d) : evs (ev G (n + 1) sc φ) [.Name x p] = some [d] := by
  show ((φ.lookup x).bind fun d => (some []).bind fun l => some (d :: l)) = _
  rw [h]; rfl
theorem evs_names2 {G : Fn} {n : Nat} {sc : Sc} {φ : Ph} {x y : Str} {p q : Pos} {d e : D} (h : φ.lookup x = some d) (h' : φ.lookup y = some e) : evs (ev G (n + 1) sc φ) [.Name x p, .Name y q] = some [d, e] := by
  show ((φ.lookup x).bind fun d => ((φ.lookup y).bind fun d => (some []).bind fun l => some (d :: l)).bind fun l => some (d :: l)) = _
  rw [h, h']; rfl
theorem evs_nil {f : Expr → Option D} {l : List D} (h : evs f [] = some l) : l = [] := (Option.some.inj h).symm
theorem evs_len {f : Expr → Option D} : ∀ {es : List Expr} {l : List D}, evs f es = some l → l.length = es.length
  | [], l, e => by obtain rfl := evs_nil e; rfl
  | a :: es, l, e => by
    obtain ⟨_, d, l', _, e1, rfl⟩ := evs_cons' e
    rw [List.length_cons, List.length_cons, evs_len e1]
theorem evs_ok {pos : Pos} {A : Around} (F : FOk C k X sc env φ f) (K : Aok k A) : ∀ (es : List Expr) (l : List D), evs f es = some l → ∀ (s : Shared) (Q : List Value → Shared → Prop) (E : Value → Shared → Prop), St C X sc env φ s.heap → RetL C X s l Q →
    wpAny (model C.prog C.w) A (spliced (backTo pos (starEach es env))) Q E s
  | [], l, e, s, Q, E, S, h => by
    obtain rfl := evs_nil e
    exact spliced_none (h [] s.heap s.toks S.H .refl (by simp only [RpL]))
  | e :: es, l, h0, s, Q, E, S, h => by
    obtain ⟨hst, d, l', h1, h2, rfl⟩ := evs_cons (env := env) h0
    refine spliced_more (F e d h1 A s _ E K S fun v h' tk H k1 r => ?_) hst
    refine evs_ok F K es l' h2 _ _ E (S.kp H k1) fun vs h'' tk' H' k2 r2 => ?_
    exact h _ h'' tk' H' (k1.trans k2) (by simp only [RpL]; exact ⟨v, vs, rfl, r.kp k2 S.x.tb, r2⟩)

noncomputable def bopD (op : BoolOp) (b : Bool) (d X : Option D) : Option D := match op, b with
  | .And, false => d
  | .Or, true => d
  | _, _ => X
theorem evBool_cons {f : Expr → Option D} {op : BoolOp} {e e' : Expr} {es : List Expr} {d : D} (h : evBool f op (e :: e' :: es) = some d) : ∃ d1, f e = some d1 ∧ ∃ b, truthD d1 = some b ∧ bopD op b (some d1) (evBool f op (e' :: es)) = some d := by
  obtain ⟨d1, h1, h⟩ := Option.bind_eq_some_iff.mp (show ((f e).bind fun d => (truthD d).bind fun b => bopD op b (some d) (evBool f op (e' :: es))) = some d from h)
  obtain ⟨b, hb, h⟩ := Option.bind_eq_some_iff.mp h
  exact ⟨d1, h1, b, hb, h⟩
theorem evCmp_one {f : Expr → Option D} {op : CmpOp} {e : Expr} {a d : D} (h : evCmp f a [op] [e] = some d) : ∃ b, f e = some b ∧ ∃ c, cmpD op a b = some c ∧ .bool c = d := by
  obtain ⟨b, h1, h⟩ := Option.bind_eq_some_iff.mp (show ((f e).bind fun b => (cmpD op a b).map .bool) = some d from h)
  obtain ⟨c, h2, h⟩ := Option.map_eq_some_iff.mp h
  exact ⟨b, h1, c, h2, h⟩
theorem evCmp_two {f : Expr → Option D} {op op' : CmpOp} {ops : List CmpOp} {e e' : Expr} {es : List Expr} {a d : D} (h : evCmp f a (op :: op' :: ops) (e :: e' :: es) = some d) : ∃ b, f e = some b ∧ ∃ c, cmpD op a b = some c ∧ (if c then evCmp f b (op' :: ops) (e' :: es) else some (.bool false)) = some d := by
  obtain ⟨b, h1, h⟩ := Option.bind_eq_some_iff.mp (show ((f e).bind fun b => (cmpD op a b).bind fun c => if c then evCmp f b (op' :: ops) (e' :: es) else some (.bool false)) = some d from h)
  obtain ⟨c, h2, h⟩ := Option.bind_eq_some_iff.mp h
  exact ⟨b, h1, c, h2, h⟩
theorem evBool_ok {pos : Pos} {op : BoolOp} {A : Around} (F : FOk C k X sc env φ f) (K : Aok k A) : ∀ (es : List Expr) (d : D), evBool f op es = some d → ∀ (s : Shared) (Q E : Value → Shared → Prop), St C X sc env φ s.heap → Ret C X s d Q →
    wpAny (model C.prog C.w) A (eval (.BoolOp op es pos) env) Q E s
  | [], d, e, _, _, _, _, _ => no' e
  | [e], d, h0, s, Q, E, S, h => by
    exact BoolOp_one (F e d h0 A s Q E K S h)
  | e :: e' :: es, d, h0, s, Q, E, S, h => by
    obtain ⟨d1, h1, b, hb, h2⟩ := evBool_cons h0
    cases op with
    | And =>
      refine BoolOp_and (F e d1 h1 A s _ E K S fun v h' tk H k1 r => truth_ok (C := C) r hb fun tk' => ?_)
      induction b using Bool.casesOn with
      | false =>
        obtain rfl := Option.some.inj h2
        rw [if_neg Bool.false_ne_true]
        exact h _ _ _ H k1 r
      | true =>
        rw [if_pos rfl]
        exact evBool_ok F K (e' :: es) d h2 _ _ E (S.kp H k1) fun v h'' tk'' H' k2 r2 => h _ _ _ H' (k1.trans k2) r2
    | Or =>
      refine BoolOp_or (F e d1 h1 A s _ E K S fun v h' tk H k1 r => truth_ok (C := C) r hb fun tk' => ?_)
      induction b using Bool.casesOn with
      | true =>
        obtain rfl := Option.some.inj h2
        rw [if_pos rfl]
        exact h _ _ _ H k1 r
      | false =>
        rw [if_neg Bool.false_ne_true]
        exact evBool_ok F K (e' :: es) d h2 _ _ E (S.kp H k1) fun v h'' tk'' H' k2 r2 => h _ _ _ H' (k1.trans k2) r2

theorem boolTrue_ok {pos : Pos} {op : BoolOp} {whole : Sem Value} {A : Around} (F : TOk C k X sc env φ f) (K : Aok k A) : ∀ (es : List Expr) (d : D) (b : Bool), evBool f op es = some d → truthD d = some b → ∀ (s : Shared) (Q : Bool → Shared → Prop) (E : Value → Shared → Prop), St C X sc env φ s.heap → RetB C s b Q →
    wpAny (model C.prog C.w) A (isTrue (.BoolOp op es pos) env whole) Q E s
  | [], d, b, e, _, _, _, _, _, _ => no' e
  | [e], d, b, h0, hb, s, Q, E, S, h => by
    cases op with
    | And =>
      refine isTrue_and (F e d b h0 hb A s _ E K S fun h' tk H k1 => ?_)
      induction b using Bool.casesOn with
      | false => rw [if_neg Bool.false_ne_true]; exact h _ _ H k1
      | true => rw [if_pos rfl]; exact isTrue_and_nil (h _ _ H k1)
    | Or =>
      refine isTrue_or (F e d b h0 hb A s _ E K S fun h' tk H k1 => ?_)
      induction b using Bool.casesOn with
      | true => rw [if_pos rfl]; exact h _ _ H k1
      | false => rw [if_neg Bool.false_ne_true]; exact isTrue_or_nil (h _ _ H k1)
  | e :: e' :: es, d, b, h0, hb, s, Q, E, S, h => by
    obtain ⟨d1, h1, b1, hb1, h2⟩ := evBool_cons h0
    cases op with
    | And =>
      refine isTrue_and (F e d1 b1 h1 hb1 A s _ E K S fun h' tk H k1 => ?_)
      induction b1 using Bool.casesOn with
      | false =>
        obtain rfl := Option.some.inj h2
        rw [hb1] at hb; cases hb
        rw [if_neg Bool.false_ne_true]
        exact h _ _ H k1
      | true =>
        rw [if_pos rfl]
        exact boolTrue_ok F K (e' :: es) d b h2 hb _ _ E (S.kp H k1) fun h'' tk'' H' k2 => h _ _ H' (k1.trans k2)
    | Or =>
      refine isTrue_or (F e d1 b1 h1 hb1 A s _ E K S fun h' tk H k1 => ?_)
      induction b1 using Bool.casesOn with
      | true =>
        obtain rfl := Option.some.inj h2
        rw [hb1] at hb; cases hb
        rw [if_pos rfl]
        exact h _ _ H k1
      | false =>
        rw [if_neg Bool.false_ne_true]
        exact boolTrue_ok F K (e' :: es) d b h2 hb _ _ E (S.kp H k1) fun h'' tk'' H' k2 => h _ _ H' (k1.trans k2)

theorem evCmp_ok {pos : Pos} {A : Around} (F : FOk C k X sc env φ f) (K : Aok k A) : ∀ (ops : List CmpOp) (es : List Expr) (a d : D) (va : Value), evCmp f a ops es = some d → ∀ (s : Shared) (Q E : Value → Shared → Prop), St C X sc env φ s.heap → Rp X s.heap a va → Ret C X s d Q →
    wpAny (model C.prog C.w) A (compareChain pos va ops (evalEach es env)) Q E s
  | [op], [e], a, d, va, h0, s, Q, E, S, ra, h => by
    obtain ⟨b, h1, c, h2, rfl⟩ := evCmp_one h0
    refine chain_last (F e b h1 A s _ E K S fun v h' tk H k1 r => ?_)
    exact cmp_ok (C := C) K (ra.kp k1 S.x.tb) r h2 (h _ _ _ H k1 (by simp only [Rp]))
  | op :: op' :: ops, e :: e' :: es, a, d, va, h0, s, Q, E, S, ra, h => by
    obtain ⟨b, h1, c, h2, h3⟩ := evCmp_two h0
    refine chain_link (F e b h1 A s _ E K S fun v h' tk H k1 r => ?_)
    refine cmp_ok (C := C) K (ra.kp k1 S.x.tb) r h2 (wpAny_truthy_bool ?_)
    induction c using Bool.casesOn with
    | false =>
      obtain rfl : D.bool false = d := Option.some.inj h3
      rw [if_neg Bool.false_ne_true]
      exact h _ _ _ H k1 (by simp only [Rp])
    | true =>
      rw [if_pos rfl] at h3 ⊢
      exact evCmp_ok F K (op' :: ops) (e' :: es) b d v h3 _ _ E (S.kp H k1) r fun v h'' tk'' H' k2 r2 => h _ _ _ H' (k1.trans k2) r2
  | [], _, _, _, _, h0, _, _, _, _, _, _ => no' h0
  | [_], [], _, _, _, h0, _, _, _, _, _, _ => no' h0
  | _ :: _ :: _, [], _, _, _, h0, _, _, _, _, _, _ => no' h0
  | _ :: _ :: _, [_], _, _, _, h0, _, _, _, _, _, _ => no' h0
  | [_], _ :: _ :: _, _, _, _, h0, _, _, _, _, _, _ => no' h0

theorem cmpTrue_ok {pos : Pos} {A : Around} (F : FOk C k X sc env φ f) (K : Aok k A) : ∀ (ops : List CmpOp) (es : List Expr) (a d : D) (b : Bool) (va : Value), evCmp f a ops es = some d → truthD d = some b → ∀ (s : Shared) (Q : Bool → Shared → Prop) (E : Value → Shared → Prop), St C X sc env φ s.heap → Rp X s.heap a va → RetB C s b Q →
    wpAny (model C.prog C.w) A (testChain pos va ops (evalEach es env)) Q E s
  | [op], [e], a, d, b, va, h0, hb, s, Q, E, S, ra, h => by
    obtain ⟨b1, h1, c, h2, rfl⟩ := evCmp_one h0
    obtain rfl : c = b := Option.some.inj hb
    refine test_last (F e b1 h1 A s _ E K S fun v h' tk H k1 r => ?_)
    exact cmp_ok (C := C) K (ra.kp k1 S.x.tb) r h2 (wpAny_truthy_bool (h _ _ H k1))
  | op :: op' :: ops, e :: e' :: es, a, d, b, va, h0, hb, s, Q, E, S, ra, h => by
    obtain ⟨b1, h1, c, h2, h3⟩ := evCmp_two h0
    refine test_link (F e b1 h1 A s _ E K S fun v h' tk H k1 r => ?_)
    refine cmp_ok (C := C) K (ra.kp k1 S.x.tb) r h2 (wpAny_truthy_bool ?_)
    induction c using Bool.casesOn with
    | false =>
      obtain rfl : D.bool false = d := Option.some.inj h3
      obtain rfl : false = b := Option.some.inj hb
      rw [if_neg Bool.false_ne_true]
      exact h _ _ H k1
    | true =>
      rw [if_pos rfl] at h3 ⊢
      exact cmpTrue_ok F K (op' :: ops) (e' :: es) b1 d b v h3 hb _ _ E (S.kp H k1) r fun h'' tk'' H' k2 => h _ _ H' (k1.trans k2)
  | [], _, _, _, _, _, h0, _, _, _, _, _, _, _ => no' h0
  | [_], [], _, _, _, _, h0, _, _, _, _, _, _, _ => no' h0
  | _ :: _ :: _, [], _, _, _, _, h0, _, _, _, _, _, _, _ => no' h0
  | _ :: _ :: _, [_], _, _, _, _, h0, _, _, _, _, _, _, _ => no' h0
  | [_], _ :: _ :: _, _, _, _, _, h0, _, _, _, _, _, _, _ => no' h0
end
end Mine
namespace Mine
open PySem PySem.Spec PySem.Calls PyProof.Rows PySem.W
open Sem (wp)
set_option linter.unusedVariables false

noncomputable def rngItems (a : Int) (n : Nat) : List D := (List.range n).map fun i => .int (a + (i : Nat))

theorem KeysAt.rpl {X : Addr → Prop} {h : Heap} : ∀ {ks : List (Int × Int)} {es : List DictEntry}, KeysAt X h ks es → RpL X h (ks.map keyD) (es.map (·.key))
  | [], _, x => by rw [show _ = [] from x]; simp [RpL]
  | k :: ks, _, x => by
    obtain ⟨e, r, rfl, ⟨_, a, n, t, u, e3, hx, g⟩, y⟩ := x
    simp only [List.map_cons, RpL]
    refine ⟨_, _, rfl, ?_, y.rpl⟩
    simp only [keyD, Rp]
    exact ⟨a, _, n, e3, hx, g, by simp only [RpL, Rp]; exact ⟨_, _, rfl, ⟨t, rfl⟩, _, _, rfl, ⟨u, rfl⟩, rfl⟩⟩

/-- an iterator at its i-th item -/
noncomputable def ItAt (X : Addr → Prop) (h : Heap) (I : Addr) (its : List D) (i : Nat) : Prop :=
  (∃ l vs n, h.IsListIter I l i ∧ ¬ X l ∧ l ≠ I ∧ h.get? l = some (lstO vs n) ∧ RpL X h its vs.toList) ∨
  (∃ a n, its = rngItems a n ∧ IsRangeIter h I (a + (i : Nat)) ((n : Int) - (i : Nat)) 1) ∨
  (∃ d es ep, h.get? I = some (kitO d i es.size ep) ∧ ¬ X d ∧ d ≠ I ∧ h.get? d = some (dctO es ep) ∧ RpL X h its (es.toList.map (·.key))) ∨
  (∃ d es ep ks vs, IitAt (fun a => ¬ X a) h I d i es.size ep ∧ ¬ X d ∧ d ≠ I ∧ h.get? d = some (dctO es ep) ∧ its = List.zipWith (fun k v => D.tup [keyD k, v]) ks vs ∧ RpL X h (ks.map keyD) (es.toList.map (·.key)) ∧ RpL X h vs (es.toList.map (·.val)))

theorem ItAt.ex {X : Addr → Prop} {h : Heap} {I : Addr} {its : List D} {i : Nat} (x : ItAt X h I its i) : ∃ o, h.get? I = some o := by
  rcases x with ⟨l, vs, m, ⟨o, ho, r⟩, _⟩ | ⟨a, m, e, r⟩ | ⟨d, es, ep, g, _⟩ | ⟨d, es, ep, ks, vs, ⟨f0, b, k, v, g, _⟩, _⟩
  · exact ⟨o, ho⟩
  · exact ⟨_, r⟩
  · exact ⟨_, g⟩
  · exact ⟨_, g⟩
theorem ItAt.kp {X Y : Addr → Prop} {h h' : Heap} {I : Addr} {its : List D} {i : Nat} (x : ItAt X h I its i) (k : Kp Y h h') (s : ∀ b, Y b → X b) (n : ¬ Y I) : ItAt X h' I its i := by
  rcases x with ⟨l, vs, m, ⟨o, ho, r⟩, hx, hn, g, y⟩ | ⟨a, m, e, r⟩ | ⟨d, es, ep, gi, hx, hn, g, y⟩ | ⟨d, es, ep, ks, vs, ⟨f0, b, kk, v, gi, alt⟩, hx, hn, g, e, y, z⟩
  · exact .inl ⟨l, vs, m, ⟨o, k _ _ n ho, r⟩, hx, hn, k _ _ (fun q => hx (s _ q)) g, y.kp k s⟩
  · exact .inr (.inl ⟨a, m, e, k _ _ n r⟩)
  · exact .inr (.inr (.inl ⟨d, es, ep, k _ _ n gi, hx, hn, k _ _ (fun q => hx (s _ q)) g, y.kp k s⟩))
  · exact .inr (.inr (.inr ⟨d, es, ep, ks, vs, ⟨f0, b, kk, v, k _ _ n gi, alt.imp id fun ⟨a, o, e1, e2, e3, e4⟩ => ⟨a, o, e1, e2, e3, k _ _ (fun q => e3 (s _ q)) e4⟩⟩, hx, hn, k _ _ (fun q => hx (s _ q)) g, e, y.kp k s, z.kp k s⟩))
theorem ItAt.nja {X : Addr → Prop} {h : Heap} {I : Addr} {its : List D} {i : Nat} (x : ItAt X h I its i) : ¬ JA h I := by
  rintro ⟨o, vs, e, d, q⟩
  rcases x with ⟨l, _, _, ⟨o', ho, hc, hd⟩, _⟩ | ⟨a, m, _, r⟩ | ⟨_, _, _, g, _⟩ | ⟨_, _, _, _, _, ⟨f0, b, kk, v, g, _⟩, _⟩
  · rw [ho] at e; cases e
    rw [hd] at d; cases d
    rcases q with q | ⟨s, t, q⟩
    · rw [hc] at q; cases q
    · simp at q
  · have r' : h.get? I = _ := r
    rw [r'] at e; cases e
    cases d
    rcases q with q | ⟨s, t, q⟩
    · cases q
    · simp [rawInt] at q
  · rw [g] at e; cases e
    cases d
    rcases q with q | ⟨s, t, q⟩
    · cases q
    · simp at q
  · rw [g] at e; cases e
    cases d
    rcases q with q | ⟨s, t, q⟩
    · cases q
    · simp at q
section
variable {C : Cfg} {A : Around} {E : Value → Shared → Prop} {s : Shared} {X : Addr → Prop} {k : Nat} {I : Addr} {its : List D} {i : Nat}

theorem zipW_get {ks : List (Int × Int)} {vs : List D} {i : Nat} {d : D} (e : (List.zipWith (fun k v => D.tup [keyD k, v]) ks vs)[i]? = some d) : ∃ k v, ks[i]? = some k ∧ vs[i]? = some v ∧ d = .tup [keyD k, v] := by
  rw [List.getElem?_zipWith] at e
  cases h1 : ks[i]? <;> cases h2 : vs[i]? <;> simp [h1, h2] at e
  exact ⟨_, _, rfl, rfl, e.symm⟩

theorem ItAt.item {d : D} {Q : Option Value → Shared → Prop} (xo : XOk C X s.heap) (x : ItAt X s.heap I its i) (xi : X I) (e : its[i]? = some d)
    (h : ∀ v h' tk, Rp X h' d v → ItAt X h' I its (i + 1) → Kp (fun b => b = I) s.heap h' → Q (some v) { s with heap := h', toks := tk }) : wpAny (model C.prog C.w) A (pyNext (.ref I)) Q E s := by
  have ss : ∀ b, (fun b => b = I) b → X b := fun b q => q ▸ xi
  rcases x with ⟨l, vs, m, hit, hx, hn, g, y⟩ | ⟨a, m, rfl, r⟩ | ⟨dd, es, ep, gi, hx, hn, g, y⟩ | ⟨dd, es, ep, ks, vs, hit, hx, hn, g, rfl, y, z⟩
  · obtain ⟨v, hv, rv⟩ := y.get e
    refine wpAny_pyNext_list_item hit ⟨_, g, rfl, m, rfl⟩ (x := v) (by simpa using hv) fun h' hit' hs => ?_
    have kk : Kp (fun b => b = I) s.heap h' := .same hs rfl
    exact h v h' s.toks (rv.kp kk ss) (.inl ⟨l, vs, m, hit', hx, hn, kk _ _ hn g, y.kp kk ss⟩) kk
  · have hi : i < m := by
      have := (List.getElem?_eq_some_iff.mp e).1
      simpa [rngItems] using this
    have ed : d = .int (a + (i : Nat)) := by
      simp only [rngItems, List.getElem?_map, List.getElem?_range hi, Option.map_some, Option.some.injEq] at e
      exact e.symm
    subst ed
    refine wpAny_pyNext_range_item r (by omega) fun h' hit' hs => ?_
    refine h _ h' _ (by simp only [Rp]; exact ⟨_, rfl⟩) (.inr (.inl ⟨a, m, rfl, ?_⟩)) (.same hs rfl)
    have e1 : a + ((i + 1 : Nat) : Int) = a + (i : Int) + 1 := by omega
    have e2 : (m : Int) - ((i + 1 : Nat) : Int) = (m : Int) - (i : Int) - 1 := by omega
    rw [e1, e2]; exact hit'
  · obtain ⟨v, hv, rv⟩ := y.get e
    rw [List.getElem?_map] at hv
    have hi : i < es.size := by
      cases q : es.toList[i]? with
      | none => rw [q] at hv; cases hv
      | some _ => have := (List.getElem?_eq_some_iff.mp q).1; simpa using this
    have hv' : v = es[i].key := by
      rw [List.getElem?_eq_getElem (by simpa using hi)] at hv
      simpa using hv.symm
    subst hv'
    refine dctNext_item gi g hi fun h' gi' hs => ?_
    have kk : Kp (fun b => b = I) s.heap h' := .same hs rfl
    exact h _ h' s.toks (rv.kp kk ss) (.inr (.inr (.inl ⟨dd, es, ep, gi', hx, hn, kk _ _ hn g, y.kp kk ss⟩))) kk
  · obtain ⟨k, v, e1, e2, rfl⟩ := zipW_get e
    obtain ⟨kv, hk, rk⟩ := y.get (i := i) (d := keyD k) (by rw [List.getElem?_map, e1]; rfl)
    obtain ⟨vv, hv, rv⟩ := z.get e2
    rw [List.getElem?_map] at hk hv
    have hi : i < es.size := by
      cases q : es.toList[i]? with
      | none => rw [q] at hv; cases hv
      | some _ => have := (List.getElem?_eq_some_iff.mp q).1; simpa using this
    have hk' : kv = es[i].key := by
      rw [List.getElem?_eq_getElem (by simpa using hi)] at hk
      simpa using hk.symm
    have hv' : vv = es[i].val := by
      rw [List.getElem?_eq_getElem (by simpa using hi)] at hv
      simpa using hv.symm
    subst hk' hv'
    refine itmNext_item (P := fun a => ¬ X a) xo.fresh hit g hn hi fun h' gT it' hs => ?_
    have kk : Kp (fun b => b = I) s.heap h' := fun b o nb eb => hs b o nb eb
    refine h _ h' s.toks ?_ (.inr (.inr (.inr ⟨dd, es, ep, ks, vs, it', hx, hn, kk _ _ hn g, rfl, y.kp kk ss, z.kp kk ss⟩))) kk
    simp only [Rp]
    exact ⟨_, _, _, rfl, xo.fresh, gT, by simp only [RpL]; exact ⟨_, _, rfl, rk.kp kk ss, _, _, rfl, rv.kp kk ss, rfl⟩⟩

theorem ItAt.done {Q : Option Value → Shared → Prop} (hA : A.handled = none) (x : ItAt X s.heap I its i) (e : i = its.length)
    (h : ∀ h', Kp (fun b => b = I) s.heap h' → Q none { s with heap := h' }) : wpAny (model C.prog C.w) A (pyNext (.ref I)) Q E s := by
  rcases x with ⟨l, vs, m, hit, hx, hn, g, y⟩ | ⟨a, m, rfl, r⟩ | ⟨dd, es, ep, gi, hx, hn, g, y⟩ | ⟨dd, es, ep, ks, vs, hit, hx, hn, g, rfl, y, z⟩
  · have hl := y.length
    refine wpAny_pyNext_list_end hA hit ⟨_, g, rfl, m, rfl⟩ ?_ fun h' hs => h h' fun b o nb eb => hs b o nb eb
    rw [Array.getElem?_eq_none]
    simp only [Array.length_toList] at hl
    omega
  · refine wpAny_pyNext_range_end hA r (by subst e; simp [rngItems]) fun h' hs => h h' fun b o nb eb => hs b o nb eb
  · have hl := y.length
    simp only [List.length_map, Array.length_toList] at hl
    have : i = es.size := by omega
    subst this
    exact dctNext_end hA gi g fun h' hs => h h' fun b o nb eb => hs b o nb eb
  · have hl := y.length
    have hl2 := z.length
    simp only [List.length_map, Array.length_toList] at hl hl2
    rw [List.length_zipWith] at e
    have : i = es.size := by omega
    subst this
    exact itmNext_end hA hit g fun h' hs => h h' fun b o nb eb => hs b o nb eb

theorem kitSelf {d : Addr} {n ep : Nat} {Q : Value → Shared → Prop} (g : s.heap.get? I = some (kitO d i n ep)) (h : Q (.ref I) s) : wpAny (model C.prog C.w) A (pyIter (.ref I)) Q E s :=
  wpAny_pyIter_keyiter ⟨_, g, rfl, rfl⟩ h
theorem iitSelf {P : Addr → Prop} {d : Addr} {n ep : Nat} {Q : Value → Shared → Prop} (x : IitAt P s.heap I d i n ep) (h : Q (.ref I) s) : wpAny (model C.prog C.w) A (pyIter (.ref I)) Q E s := by
  obtain ⟨f0, b, k, v, g, _⟩ := x
  have hT : s.TypeIs (.ref I) "dict_itemiterator" := ⟨_, g, rfl⟩
  refine wpAny_pyIter_slot hT F.slot_dict_itemiterator_iter (wpAny_call_entry F.slot_dict_itemiterator_iter hT kcp_entry ?_ (F.args_dict_itemiterator_iter_1 _))
  show wpAny _ _ (ret (.ref I)) _ _ s
  exact wpAny_pure ⟨_, rfl, "dict_itemiterator", _, hT, F.slot_dict_itemiterator_next.lookup, h⟩
theorem ItAt.self {Q : Value → Shared → Prop} (x : ItAt X s.heap I its i) (h : Q (.ref I) s) : wpAny (model C.prog C.w) A (pyIter (.ref I)) Q E s := by
  rcases x with ⟨l, vs, m, hit, _⟩ | ⟨a, m, _, r⟩ | ⟨dd, es, ep, gi, _⟩ | ⟨dd, es, ep, ks, vs, hit, _⟩
  · exact wpAny_pyIter_listiter hit h
  · exact wpAny_pyIter_rangeiter r h
  · exact kitSelf gi h
  · exact iitSelf hit h

theorem iter_ok {d : D} {v : Value} {Q : Value → Shared → Prop} (x : XOk C X s.heap) (r : Rp X s.heap d v) (e : itemsD d = some its)
    (h : ∀ o, (∀ vs, o.data = .fields vs → True) → ItAt (fun b => X b ∨ b = s.heap.objs.size) (s.heap.push o) s.heap.objs.size its 0 → Q (.ref s.heap.objs.size) { s with heap := s.heap.push o }) :
    wpAny (model C.prog C.w) A (pyIter v) Q E s := by
  have av : ∀ b o, s.heap.get? b = some o → (X b ∨ b = s.heap.objs.size) → X b := fun b o eb q => q.elim id fun q => by
    subst q; rw [get_size] at eb; cases eb
  unfold itemsD at e
  split at e
  · split at e
    · cases e
      obtain ⟨l, vs, n, rfl, hx, g, y⟩ := r.lst_inv
      have hne : l ≠ s.heap.objs.size := Nat.ne_of_lt (Heap.lt_size g)
      refine wpAny_pyIter_list (items := vs) ⟨_, g, rfl, n, rfl⟩ (h _ (fun _ _ => trivial) (.inl ⟨l, vs, n, ⟨_, Heap.get?_push_size _ rfl, rfl, rfl⟩, fun q => q.elim hx hne, hne, Heap.get?_push_of_some _ g, ?_⟩))
      exact (y.av (X' := fun b => X b ∨ b = s.heap.objs.size) av).kp (Y := fun _ => False) (.push _) fun _ q => q.elim
    · cases e
  · split at e
    · rename_i a n hc
      cases e
      obtain ⟨r', b, t, u, t', rfl, hx, g, hb, hb1, hb2⟩ := r.rng_inv
      simp only [Bool.and_eq_true, decide_eq_true_eq, small] at hc
      have sz : Builtin.Range.rangeSize a b 1 = n := by
        rw [rangeSize_one]
        by_cases q : a < b
        · rw [if_pos q]; omega
        · rw [if_neg q]; omega
      refine wpAny_pyIter_range g (small_one (by omega) (by omega) (by omega) (by omega)) (h _ (fun _ _ => trivial) (.inr (.inl ⟨a, n, rfl, ?_⟩)))
      rw [sz]
      have := Heap.get?_push_size s.heap (o := { cls := .type "range_iterator", data := .fields #[rawInt a, rawInt n, rawInt 1] }) rfl
      simpa using this
    · cases e
  · split at e
    · cases e
      obtain ⟨a, es, ep, rfl, hx, hm, g, nd, y, z⟩ := r.dct_inv
      have hne : a ≠ s.heap.objs.size := Nat.ne_of_lt (Heap.lt_size g)
      refine dctIter_ok hm g (h _ (fun _ _ => trivial) (.inr (.inr (.inl ⟨a, es, ep, Heap.get?_push_size _ rfl, fun q => q.elim hx hne, hne, Heap.get?_push_of_some _ g, ?_⟩))))
      exact (y.rpl.av (X' := fun b => X b ∨ b = s.heap.objs.size) av).kp (Y := fun _ => False) (.push _) fun _ q => q.elim
    · cases e
  · split at e
    · cases e
      obtain ⟨u, a, es, ep, rfl, hu, gu, hx, hm, g, nd, y, z⟩ := r.itm_inv
      have hne : a ≠ s.heap.objs.size := Nat.ne_of_lt (Heap.lt_size g)
      refine itvIter_ok gu g (h _ (fun _ _ => trivial) (.inr (.inr (.inr ⟨a, es, ep, _, _, ⟨_, _, _, _, Heap.get?_push_size _ rfl, .inl rfl⟩, fun q => q.elim hx hne, hne, Heap.get?_push_of_some _ g, rfl, ?_, ?_⟩))))
      · exact (y.rpl.av (X' := fun b => X b ∨ b = s.heap.objs.size) av).kp (Y := fun _ => False) (.push _) fun _ q => q.elim
      · exact (z.av (X' := fun b => X b ∨ b = s.heap.objs.size) av).kp (Y := fun _ => False) (.push _) fun _ q => q.elim
    · cases e
  · cases e
end
end Mine
namespace Mine
open PySem PySem.Spec PySem.Calls PyProof.Rows PySem.W
open Sem (wp)
set_option linter.unusedVariables false

theorem compTurn_last {elt : Expr} {gens : List Comprehension} {scope : Scope} {pos : Pos} {depth : Nat} {it acc : Value} {env : Env} {target iter : Expr} {ifs : List Expr}
    (hg : gens[depth]? = some ⟨target, iter, ifs, 0⟩) (hn : gens[depth + 1]? = none) :
    compTurn (.ListComp elt gens scope pos) depth it acc env = (do
      standAt iter.pos
      match ← pyNext it with
      | none => pure (.done .next)
      | some v =>
        letOwnedTupleGo target it v
        assign target env v
        let mut ok := true
        for c in ifs do
          if ok then ok ← isTrue c env (eval c env)
        if ok then do
          let x ← eval elt env
          let _ ← call (.builtin "list.append") [acc, x]
          again (.compLoop (.ListComp elt gens scope pos) depth it acc env)
        else again (.compLoop (.ListComp elt gens scope pos) depth it acc env)) := by
  unfold compTurn
  simp only [hg, hn, show ((0 : Int) != 0) = false from rfl, Bool.false_eq_true, if_false, bind_assoc, pure_bind]
  try rfl
theorem compTurn_more {elt : Expr} {gens : List Comprehension} {scope : Scope} {pos : Pos} {depth : Nat} {it acc : Value} {env : Env} {target iter target' iter' : Expr} {ifs ifs' : List Expr}
    (hg : gens[depth]? = some ⟨target, iter, ifs, 0⟩) (hn : gens[depth + 1]? = some ⟨target', iter', ifs', 0⟩) :
    compTurn (.ListComp elt gens scope pos) depth it acc env = (do
      standAt iter.pos
      match ← pyNext it with
      | none => pure (.done .next)
      | some v =>
        letOwnedTupleGo target it v
        assign target env v
        let mut ok := true
        for c in ifs do
          if ok then ok ← isTrue c env (eval c env)
        if ok then do
          let x ← eval iter' env
          standAt iter'.pos
          let x ← foldedSetIterable iter' env x
          let i ← holding [x] (pyIter x)
          let _ ← runOwn (.compStart (.ListComp elt gens scope pos) (depth + 1) i acc env) env
          again (.compLoop (.ListComp elt gens scope pos) depth it acc env)
        else again (.compLoop (.ListComp elt gens scope pos) depth it acc env)) := by
  unfold compTurn
  simp only [hg, hn, show ((0 : Int) != 0) = false from rfl, Bool.false_eq_true, if_false, bind_assoc, pure_bind]
  try rfl
end Mine
namespace Mine
open PySem PySem.Spec PySem.Calls PyProof.Rows PySem.W
section
variable {prog : Program} {w : World} {A : Around} {E : Value → Shared → Prop} {R : Result → Shared → Prop} {s : Shared}
theorem compStart_at {elt target iter : Expr} {ifs : List Expr} {gens : List Comprehension} {scope : Scope} {pos : Pos} {depth : Nat} {it acc : Value} {env : Env} (hg : gens[depth]? = some ⟨target, iter, ifs, 0⟩)
    (h0 : codeAny (model prog w) A (.compLoop (.ListComp elt gens scope pos) depth it acc env) R s)
    (h : wpAny (model prog w) A (pyIter it) (fun it' s' => codeAny (model prog w) A (.compLoop (.ListComp elt gens scope pos) depth it' acc env) R s')
      (notedBy (model prog w) A env fun x s' => R (.error x) s') s) :
    codeAny (model prog w) A (.compStart (.ListComp elt gens scope pos) depth it acc env) R s := by
  refine codeAny_of_tree ?_
  show wpAny _ _ ((compStart (.ListComp elt gens scope pos) depth it acc env).onRaise (fun x => do noteFrame x env; standAt theWindowsPlace)) _ _ s
  refine wpAny_notedAt ?_
  unfold compStart
  simp only [show clausesOf (.ListComp elt gens scope pos) = gens from rfl, hg, Option.elim_some, show ((0 : Int) != 0) = false from rfl, Bool.false_eq_true, if_false]
  refine wpAny_bind (wpAny_askSetting (wpAny_ite ?_))
  split
  · exact wpAny_pure (And.intro rfl h0)
  · refine wpAny_bind (wpAny_rule ?_)
    show wpAny _ _ (standAt iter.pos >>= _) _ _ s
    exact wpAny_bind (wpAny_standAt (wpAny_bind (wpAny_mono h (fun it' s' h' => wpAny_pure (And.intro rfl h')) fun _ _ x => x)))
end

noncomputable abbrev testsOf (ifs : List Expr) (b : Bool) (env : Env) : Sem Bool :=
  forIn ifs b fun c r => if r = true then do let ok ← isTrue c env (eval c env); pure (ForInStep.yield ok) else pure (ForInStep.yield r)

section
variable {C : Cfg} {k : Nat} {X : Addr → Prop} {sc : Sc} {env : Env} {φ : Ph} {f : Expr → Option D}
theorem tests_false {A : Around} {E : Value → Shared → Prop} : ∀ (ifs : List Expr) (s : Shared) (Q : Bool → Shared → Prop), Q false s → wpAny (model C.prog C.w) A (testsOf ifs false env) Q E s
  | [], s, Q, h => wpAny_pure h
  | c :: r, s, Q, h => by
    unfold testsOf
    rw [List.forIn_cons]
    simp only [Bool.false_eq_true, if_false]
    exact wpAny_bind (wpAny_pure (tests_false r s Q h))
theorem evIfs_ok {A : Around} (T : TOk C k X sc env φ f) (K : Aok k A) : ∀ (ifs : List Expr) (b : Bool), evIfs f ifs = some b → ∀ (s : Shared) (Q : Bool → Shared → Prop) (E : Value → Shared → Prop), St C X sc env φ s.heap → RetB C s b Q →
    wpAny (model C.prog C.w) A (testsOf ifs true env) Q E s
  | [], b, e, s, Q, E, S, h => by
    simp only [evIfs, Option.some.injEq] at e; subst e
    exact wpAny_pure (h s.heap s.toks S.H .refl)
  | c :: r, b, e, s, Q, E, S, h => by
    simp only [evIfs, Option.bind_eq_some_iff] at e
    obtain ⟨d, h1, b1, h2, h3⟩ := e
    unfold testsOf
    rw [List.forIn_cons]
    simp only [if_true]
    refine wpAny_bind (wpAny_bind (T c d b1 h1 h2 A s _ E K S fun h' tk H k1 => wpAny_pure ?_))
    dsimp only
    cases b1 with
    | false =>
      simp only [Bool.false_eq_true, if_false, Option.some.injEq] at h3; subst h3
      exact tests_false r _ _ (h _ _ H k1)
    | true =>
      simp only [if_true] at h3
      exact evIfs_ok T K r b h3 _ _ E (S.kp H k1) fun h'' tk'' H' k2 => h _ _ H' (k1.trans k2)
end

/-- a comprehension's fixed objects: the iterator I, the list D made, the frame -/
structure Fx (C : Cfg) (X : Addr → Prop) (env : Env) (I Dl : Addr) : Prop where
  xi : X I
  xd : X Dl
  iD : I ≠ Dl
  iL : I ≠ env.locals
  dL : Dl ≠ env.locals
  iB : C.B.get? I = none
  dB : C.B.get? Dl = none
  lB : C.B.get? env.locals = none
  iT : ¬ C.Tb I
  dT : ¬ C.Tb Dl
  ic : ∀ x c, env.cells.lookup x = some c → c ≠ I
  dc : ∀ x c, env.cells.lookup x = some c → c ≠ Dl

structure LI (C : Cfg) (X : Addr → Prop) (sc : Sc) (env : Env) (φ : Ph) (I Dl : Addr) (its : List D) (i : Nat) (la : List D) (ys : Array Value) (h : Heap) : Prop where
  H : HOk C h
  x : XOk C X h
  e : EnvOk C X sc env φ h
  it : ItAt X h I its i
  ns : ∃ m, h.Ns env.locals m
  pl : h.PlainList Dl ys
  ra : RpL X h la ys.toList

section
variable {C : Cfg} {X : Addr → Prop} {sc : Sc} {env : Env} {φ : Ph} {I Dl : Addr} {its : List D} {i : Nat} {la : List D} {ys : Array Value} {h h' : Heap}
theorem LI.st (L : LI C X sc env φ I Dl its i la ys h) : St C X sc env φ h := ⟨L.H, L.x, L.e⟩
theorem Ns_kp {Y : Addr → Prop} {a : Addr} {m : Str → Option Value} (n : h.Ns a m) (k : Kp Y h h') (y : ¬ Y a) : h'.Ns a m := let ⟨o, es, ep, e, r⟩ := n; ⟨o, es, ep, k _ _ y e, r⟩
theorem Ns_ex {a : Addr} {m : Str → Option Value} (n : h.Ns a m) : ∃ o, h.get? a = some o := let ⟨o, _, _, e, _⟩ := n; ⟨o, e⟩
theorem Ns_nja {a : Addr} {m : Str → Option Value} (n : h.Ns a m) : ¬ JA h a := let ⟨o, _, _, e, d, _⟩ := n; nja_data e fun vs q => by rw [d] at q; cases q
theorem LI.tb (L : LI C X sc env φ I Dl its i la ys h) (Z : Fx C X env I Dl) (H : HOk C h') (k : Kp C.Tb h h') : LI C X sc env φ I Dl its i la ys h' :=
  ⟨H, L.x.kp H k, L.e.kp L.x.tb k, L.it.kp k L.x.tb Z.iT, let ⟨m, n⟩ := L.ns; ⟨m, Ns_kp n k L.e.nl⟩, let ⟨n, e⟩ := L.pl; ⟨n, k _ _ Z.dT e⟩, L.ra.kp k L.x.tb⟩
theorem LI.next (L : LI C X sc env φ I Dl its i la ys h) (Z : Fx C X env I Dl) (k : Kp (fun b => b = I) h h') (it : ItAt X h' I its (i + 1)) : LI C X sc env φ I Dl its (i + 1) la ys h' := by
  have ss : ∀ b, (fun b => b = I) b → X b := fun b q => q ▸ Z.xi
  have H := L.H.step k fun b q => by subst q; exact ⟨Z.iB, L.it.nja⟩
  refine ⟨H, L.x.via H k fun b q _ => .inr ?_, L.e.kpY k ss (Ne.symm Z.iL) Z.ic, it, let ⟨m, n⟩ := L.ns; ⟨m, Ns_kp n k (Ne.symm Z.iL)⟩, let ⟨n, e⟩ := L.pl; ⟨n, k _ _ (Ne.symm Z.iD) e⟩, L.ra.kp k ss⟩
  subst q
  exact it.ex
theorem LI.store {x : Str} {d : D} {v : Value} {m : Str → Option Value} (L : LI C X sc env φ I Dl its i la ys h) (Z : Fx C X env I Dl) (hx : sc.lookup x = some .local) (ok : okName x = true) (hn : h.Ns env.locals m)
    (hn' : h'.Ns env.locals (fun y => if y = x then some v else m y)) (hs : Heap.SameBut env.locals h h') (r : Rp X h d v) : LI C X sc env (setA x d φ) I Dl its i la ys h' := by
  have k : Kp (fun b => b = env.locals) h h' := .same hs rfl
  have ss : ∀ b, (fun b => b = env.locals) b → X b := fun b q => q ▸ L.e.xl
  have H := L.H.same hs Z.lB (Ns_nja hn)
  exact ⟨H, L.x.via H k fun b q _ => .inr (q ▸ Ns_ex hn'), L.e.store hx ok hn hn' hs r, L.it.kp k ss Z.iL, ⟨_, hn'⟩, let ⟨n, e⟩ := L.pl; ⟨n, k _ _ Z.dL e⟩, L.ra.kp k ss⟩
theorem LI.forget {x : Str} {d : D} (L : LI C X sc env (setA x d φ) I Dl its i la ys h) (n : φ.lookup x = none) : LI C X sc env φ I Dl its i la ys h := ⟨L.H, L.x, L.e.forget n, L.it, L.ns, L.pl, L.ra⟩
theorem LI.app {d : D} {v : Value} (L : LI C X sc env φ I Dl its i la ys h) (Z : Fx C X env I Dl) (r : Rp X h d v) (pl : h'.PlainList Dl (ys.push v)) (hs : Heap.SameBut Dl h h') : LI C X sc env φ I Dl its i (la ++ [d]) (ys.push v) h' := by
  have k : Kp (fun b => b = Dl) h h' := .same hs rfl
  have ss : ∀ b, (fun b => b = Dl) b → X b := fun b q => q ▸ Z.xd
  obtain ⟨n0, e0⟩ := L.pl
  have H := L.H.same hs Z.dB (nja_data e0 fun vs q => by cases q)
  refine ⟨H, L.x.via H k fun b q _ => .inr ?_, L.e.kpY k ss (Ne.symm Z.dL) Z.dc, L.it.kp k ss Z.iD, let ⟨m, n⟩ := L.ns; ⟨m, Ns_kp n k (Ne.symm Z.dL)⟩, pl, ?_⟩
  · subst q; obtain ⟨n, e⟩ := pl; exact ⟨_, e⟩
  · rw [Array.toList_push]; exact (L.ra.kp k ss).append (.one (r.kp k ss))
theorem LI.subφ {φ' : Ph} (L : LI C X sc env φ I Dl its i la ys h) (e : ∀ y d, φ'.lookup y = some d → φ.lookup y = some d) : LI C X sc env φ' I Dl its i la ys h :=
  ⟨L.H, L.x, ⟨L.e.fn, L.e.gl, L.e.bl, L.e.nl, L.e.xl, L.e.nc, L.e.xc, L.e.kd, L.e.cl, fun y d q => L.e.ld y d (e y d q)⟩, L.it, L.ns, L.pl, L.ra⟩
end

section
variable {C : Cfg} {k : Nat} {sc : Sc} {env : Env} {φ : Ph} {A : Around} {X : Addr → Prop} {E : Value → Shared → Prop} {s : Shared} {I Dl : Addr} {its : List D} {i : Nat} {la : List D} {ys : Array Value}
noncomputable def ownB (I a : Addr) : Sem Unit := do
      let o ← load I
      match o.cls, o.data with
      | .type n, .fields vs =>
        if (["enumerate", "zip", "dict_itemiterator", "dict_reverseitemiterator", "odict_iterator", "itertools.zip_longest", "itertools.pairwise"].contains n && vs[0]? == some (rawInt a)) = true then
          rule "for.unpacks-the-owned-tuple"
          updateField I 0 .none
        else pure ()
      | _, _ => pure ()
theorem owned_eq (tg : Expr) (v : Value) (I : Addr) : letOwnedTupleGo tg (.ref I) v = pure () ∨ ∃ a, letOwnedTupleGo tg (.ref I) v = ownB I a := by
  induction tg using Expr.casesOn with
  | Tuple es k p => induction v using Value.casesOn with
    | ref a => exact .inr ⟨a, rfl⟩
    | _ => exact .inl rfl
  | List es p => induction v using Value.casesOn with
    | ref a => exact .inr ⟨a, rfl⟩
    | _ => exact .inl rfl
  | _ => exact .inl rfl
theorem ownF {n : String} {b : Bool} (h : (["enumerate", "zip", "dict_itemiterator", "dict_reverseitemiterator", "odict_iterator", "itertools.zip_longest", "itertools.pairwise"] : List String).contains n = false) : ¬ ((["enumerate", "zip", "dict_itemiterator", "dict_reverseitemiterator", "odict_iterator", "itertools.zip_longest", "itertools.pairwise"] : List String).contains n && b) = true := by
  rw [h]; exact fun h => Bool.noConfusion h
theorem letOwned_ok {tg : Expr} {v : Value} {Q : Unit → Shared → Prop} (x : ItAt X s.heap I its i) (xi : X I) (h : ∀ h', ItAt X h' I its i → Kp (fun b => b = I) s.heap h' → Q () { s with heap := h' }) : wpAny (model C.prog C.w) A (letOwnedTupleGo tg (.ref I) v) Q E s := by
  have same : Q () s := h s.heap x .refl
  have ss : ∀ b, (fun b => b = I) b → X b := fun b q => q ▸ xi
  have body : ∀ a : Addr, wpAny (model C.prog C.w) A (ownB I a) Q E s := by
    intro a
    rcases x with ⟨l, vs, m, ⟨o, ho, hc, hd⟩, r⟩ | ⟨b, m, e, r⟩ | ⟨d, es, ep, gi, r⟩ | ⟨d, es, ep, ks, vs, ⟨f0, b, kk, v, gi, alt⟩, hx, hn, g, e, y, z⟩
    · refine wpAny_bind (wpAny_load ho ?_)
      rw [hc, hd]
      show wpAny _ _ (if _ = true then _ else _) _ _ _
      rw [if_neg (ownF (by decide +kernel))]
      exact wpAny_pure same
    · have r' : s.heap.get? I = _ := r
      refine wpAny_bind (wpAny_load r' ?_)
      show wpAny _ _ (if _ = true then _ else _) _ _ _
      rw [if_neg (ownF (by decide +kernel))]
      exact wpAny_pure same
    · refine wpAny_bind (wpAny_load gi ?_)
      show wpAny _ _ (if _ = true then _ else _) _ _ _
      rw [if_neg (ownF (by decide +kernel))]
      exact wpAny_pure same
    · refine wpAny_bind (wpAny_load gi ?_)
      show wpAny _ _ (if _ = true then _ else _) _ _ _
      by_cases q : (["enumerate", "zip", "dict_itemiterator", "dict_reverseitemiterator", "odict_iterator", "itertools.zip_longest", "itertools.pairwise"].contains "dict_itemiterator" && (#[f0, .bool b, .ref d, .int i 0, .int es.size 0, .int ep 0, kk, v] : Array Value)[0]? == some (rawInt a)) = true
      · rw [if_pos q]
        refine wpAny_bind (wpAny_rule ?_)
        show wpAny _ _ (setField (.ref I) 0 .none) _ _ _
        refine wpAny_setField gi rfl (by simp) ?_
        have kk' : Kp (fun b => b = I) s.heap (s.heap.update I (Obj.mapFields (·.setIfInBounds 0 .none))) := .same (Heap.SameBut.update ..) rfl
        exact h _ (.inr (.inr (.inr ⟨d, es, ep, ks, vs, ⟨.none, b, kk, v, fieldSet (j := 0) (x := .none) gi rfl, .inl rfl⟩, hx, hn, kk' _ _ hn g, e, y.kp kk' ss, z.kp kk' ss⟩))) kk'
      · rw [if_neg q]
        exact wpAny_pure same
  rcases owned_eq tg v I with e | ⟨a, e⟩ <;> rw [e]
  · exact wpAny_pure same
  · exact body a

theorem LI.assign1 {x : Str} {px : Pos} {d : D} {v : Value} {Q : Unit → Shared → Prop} (L : LI C X sc env φ I Dl its i la ys s.heap) (Z : Fx C X env I Dl) (hx : sc.lookup x = some .local) (ok : okName x = true) (r : Rp X s.heap d v)
    (h : ∀ h' tk, LI C X sc env (setA x d φ) I Dl its i la ys h' → Kp (fun b => b = env.locals) s.heap h' → Q () { s with heap := h', toks := tk }) : wpAny (model C.prog C.w) A (assign (.Name x px) env v) Q E s := by
  obtain ⟨m, hn1⟩ := L.ns
  have hkl : env.kindOf x = some .local := by
    rcases L.e.kd x with q | ⟨q, _⟩
    · rw [q]; exact hx
    · rw [hx] at q; cases q
  exact wpAny_assign_Name (wpAny_storeName_local hkl hn1 (fun h2 hn2 hs2 => h h2 _ (L.store Z hx ok hn1 hn2 hs2 r) (.same hs2 rfl)) (by rw [L.e.fn]; rfl))

theorem LI.assign2 {x y : Str} {px py pt : Pos} {kt : Nat} {a b : D} {v : Value} {Q : Unit → Shared → Prop} (hA : A.handled = none) (L : LI C X sc env φ I Dl its i la ys s.heap) (Z : Fx C X env I Dl) (hx : sc.lookup x = some .local ∧ okName x = true) (hy : sc.lookup y = some .local ∧ okName y = true) (r : Rp X s.heap (.tup [a, b]) v)
    (h : ∀ h' tk, LI C X sc env (setA y b (setA x a φ)) I Dl its i la ys h' → Kp (fun b => b = env.locals) s.heap h' → Q () { s with heap := h', toks := tk }) : wpAny (model C.prog C.w) A (assign (.Tuple [.Name x px, .Name y py] kt pt) env v) Q E s := by
  obtain ⟨t, vs, n, rfl, _, g, rr⟩ := r.tup_inv
  simp only [RpL] at rr
  obtain ⟨v1, w1, e1, r1, v2, w2, rfl, r2, rfl⟩ := rr
  have ev : vs = #[v1, v2] := by apply Array.toList_inj.mp; rw [e1]
  subst ev
  refine wpAny_assign_Tuple hA ⟨_, g, rfl, n, rfl⟩ rfl rfl fun h1 he1 => ?_
  have k1 : Kp (fun _ => False) s.heap h1 := fun b o _ e => he1 b o (Nat.ne_of_lt (Heap.lt_size e)) e
  have L1 := L.tb Z (L.H.keeps fun b o e => k1 b o id e) (k1.mono fun _ q => q.elim)
  show wpAny _ _ (assignInOrder [assign (.Name x px) env, assign (.Name y py) env] [v1, v2]) _ _ _
  refine assignInOrder_cons (LI.assign1 (s := { s with heap := h1 }) L1 Z hx.1 hx.2 (r1.kp k1 fun _ q => q.elim) fun h2 tk2 L2 k2 => ?_)
  refine assignInOrder_cons (LI.assign1 (s := { s with heap := h2, toks := tk2 }) L2 Z hy.1 hy.2 ((r2.kp k1 fun _ q => q.elim).kp k2 fun b q => q ▸ L.e.xl) fun h3 tk3 L3 k3 => ?_)
  exact assignInOrder_nil (h h3 tk3 L3 (((k1.mono fun _ q => q.elim).trans k2).trans k3))

/-- what bindT tells, turned round -/
inductive BindI (φ : Ph) : Expr → D → Ph → Prop
  | one (x : Str) (px : Pos) (d : D) : BindI φ (.Name x px) d (setA x d φ)
  | two (x y : Str) (px py : Pos) (k : Nat) (p : Pos) (a b : D) : BindI φ (.Tuple [.Name x px, .Name y py] k p) (.tup [a, b]) (setA y b (setA x a φ))
  | three (x y z : Str) (px py pz : Pos) (k1 : Nat) (p1 : Pos) (k : Nat) (p : Pos) (a b c : D) : BindI φ (.Tuple [.Tuple [.Name x px, .Name y py] k1 p1, .Name z pz] k p) (.tup [.tup [a, b], c]) (setA z c (setA y b (setA x a φ)))
theorem bindT_two {x y : Str} {px py : Pos} {k : Nat} {p : Pos} {d : D} {φ φ' : Ph} (h : bindT (.Tuple [.Name x px, .Name y py] k p) d φ = some φ') : BindI φ (.Tuple [.Name x px, .Name y py] k p) d φ' := by
  induction d using D.casesOn with
  | tup l => induction l using List.casesOn with
    | nil => exact no' h
    | cons a l => induction l using List.casesOn with
      | nil => exact no' h
      | cons b l => induction l using List.casesOn with
        | nil => exact (Option.some.inj h) ▸ BindI.two x y px py k p a b
        | cons => exact no' h
  | _ => exact no' h
theorem bindT_three {x y z : Str} {px py pz : Pos} {k1 k : Nat} {p1 p : Pos} {d : D} {φ φ' : Ph} (h : bindT (.Tuple [.Tuple [.Name x px, .Name y py] k1 p1, .Name z pz] k p) d φ = some φ') : BindI φ (.Tuple [.Tuple [.Name x px, .Name y py] k1 p1, .Name z pz] k p) d φ' := by
  induction d using D.casesOn with
  | tup l => induction l using List.casesOn with
    | nil => exact no' h
    | cons a l => induction l using List.casesOn with
      | nil => induction a using D.casesOn with
        | tup m => induction m using List.casesOn with
          | nil => exact no' h
          | cons u m => induction m using List.casesOn with
            | nil => exact no' h
            | cons v m => induction m using List.casesOn with
              | nil => exact no' h
              | cons => exact no' h
        | _ => exact no' h
      | cons b l => induction l using List.casesOn with
        | nil => induction a using D.casesOn with
          | tup m => induction m using List.casesOn with
            | nil => exact no' h
            | cons u m => induction m using List.casesOn with
              | nil => exact no' h
              | cons v m => induction m using List.casesOn with
                | nil => exact (Option.some.inj h) ▸ BindI.three x y z px py pz k1 p1 k p u v b
                | cons => exact no' h
          | _ => exact no' h
        | cons => induction a using D.casesOn with
          | tup m => induction m using List.casesOn with
            | nil => exact no' h
            | cons u m => induction m using List.casesOn with
              | nil => exact no' h
              | cons v m => induction m using List.casesOn with
                | nil => exact no' h
                | cons => exact no' h
          | _ => exact no' h
  | _ => exact no' h
theorem bindT_tt {es es1 : List Expr} {k1 k : Nat} {p1 p : Pos} {d : D} {φ φ' : Ph} (h : bindT (.Tuple (.Tuple es1 k1 p1 :: es) k p) d φ = some φ') : BindI φ (.Tuple (.Tuple es1 k1 p1 :: es) k p) d φ' := by
  induction es1 using List.casesOn with
  | nil => exact no' h
  | cons a es1 => induction a using Expr.casesOn with
    | Name x px => induction es1 using List.casesOn with
      | nil => exact no' h
      | cons b es1 => induction b using Expr.casesOn with
        | Name y py => induction es1 using List.casesOn with
          | nil => induction es using List.casesOn with
            | nil => exact no' h
            | cons e2 es => induction e2 using Expr.casesOn with
              | Name z pz => induction es using List.casesOn with
                | nil => exact bindT_three h
                | cons => exact no' h
              | _ => exact no' h
          | cons => exact no' h
        | _ => exact no' h
    | _ => exact no' h
theorem bindT_inv {tg : Expr} {d : D} {φ φ' : Ph} (h : bindT tg d φ = some φ') : BindI φ tg d φ' := by
  induction tg using Expr.casesOn with
  | Name x px => exact (Option.some.inj h) ▸ BindI.one x px d
  | Tuple es k p => induction es using List.casesOn with
    | nil => exact no' h
    | cons e1 es => induction e1 using Expr.casesOn with
      | Name x px => induction es using List.casesOn with
        | nil => exact no' h
        | cons e2 es => induction e2 using Expr.casesOn with
          | Name y py => induction es using List.casesOn with
            | nil => exact bindT_two h
            | cons => exact no' h
          | _ => exact no' h
      | Tuple es1 k1 p1 => exact bindT_tt h
      | _ => exact no' h
  | _ => exact no' h
theorem LI.assignT {tg : Expr} {d : D} {v : Value} {φ' : Ph} {Q : Unit → Shared → Prop} (hA : A.handled = none) (L : LI C X sc env φ I Dl its i la ys s.heap) (Z : Fx C X env I Dl) (hb : bindT tg d φ = some φ') (hn : ∀ x ∈ tgNames tg, sc.lookup x = some .local ∧ okName x = true) (r : Rp X s.heap d v)
    (h : ∀ h' tk, LI C X sc env φ' I Dl its i la ys h' → Kp (fun b => b = env.locals) s.heap h' → Q () { s with heap := h', toks := tk }) : wpAny (model C.prog C.w) A (assign tg env v) Q E s := by
  cases bindT_inv hb with
  | one x px =>
    have := hn x List.mem_cons_self
    exact L.assign1 Z this.1 this.2 r h
  | two x y px py kt pt a b =>
    exact L.assign2 hA Z (hn x List.mem_cons_self) (hn y (List.mem_cons_of_mem _ List.mem_cons_self)) r h
  | three x y z px py pz k1 p1 k2 p2 a b c =>
    obtain ⟨t, vs, n, rfl, _, g, rr⟩ := r.tup_inv
    simp only [RpL] at rr
    obtain ⟨v1, w1, e1, r1, v2, w2, rfl, r2, rfl⟩ := rr
    have ev : vs = #[v1, v2] := by apply Array.toList_inj.mp; rw [e1]
    subst ev
    refine wpAny_assign_Tuple hA ⟨_, g, rfl, n, rfl⟩ rfl rfl fun h1 he1 => ?_
    have k1' : Kp (fun _ => False) s.heap h1 := fun b o _ e => he1 b o (Nat.ne_of_lt (Heap.lt_size e)) e
    have L1 := L.tb Z (L.H.keeps fun b o e => k1' b o id e) (k1'.mono fun _ q => q.elim)
    show wpAny _ _ (assignInOrder [assign (.Tuple [.Name x px, .Name y py] k1 p1) env, assign (.Name z pz) env] [v1, v2]) _ _ _
    refine assignInOrder_cons (LI.assign2 (s := { s with heap := h1 }) hA L1 Z (hn x List.mem_cons_self) (hn y (List.mem_cons_of_mem _ List.mem_cons_self)) (r1.kp k1' fun _ q => q.elim) fun h2 tk2 L2 k2 => ?_)
    have hz := hn z (List.mem_cons_of_mem _ (List.mem_cons_of_mem _ List.mem_cons_self))
    refine assignInOrder_cons (LI.assign1 (s := { s with heap := h2, toks := tk2 }) L2 Z hz.1 hz.2 ((r2.kp k1' fun _ q => q.elim).kp k2 fun b q => q ▸ L.e.xl) fun h3 tk3 L3 k3 => ?_)
    exact assignInOrder_nil (h h3 tk3 L3 (((k1'.mono fun _ q => q.elim).trans k2).trans k3))
theorem bindT_lookup {tg : Expr} {d : D} {φ φ' : Ph} (hb : bindT tg d φ = some φ') {y : Str} (hy : y ∉ tgNames tg) : φ'.lookup y = φ.lookup y := by
  have ne : ∀ x ∈ tgNames tg, y ≠ x := fun x hx q => hy (q ▸ hx)
  cases bindT_inv hb with
  | one x px =>
    rw [lookup_setA, if_neg (ne x List.mem_cons_self)]
  | two x z px py kt pt a b =>
    rw [lookup_setA, if_neg (ne z (List.mem_cons_of_mem _ List.mem_cons_self)), lookup_setA, if_neg (ne x List.mem_cons_self)]
  | three x z w px py pz k1 p1 k2 p2 a b c =>
    rw [lookup_setA, if_neg (ne w (List.mem_cons_of_mem _ (List.mem_cons_of_mem _ List.mem_cons_self))), lookup_setA, if_neg (ne z (List.mem_cons_of_mem _ List.mem_cons_self)), lookup_setA, if_neg (ne x List.mem_cons_self)]
end
end Mine
namespace Mine
open PySem PySem.Spec PySem.Calls PyProof.Rows PySem.W
set_option linter.unusedVariables false

noncomputable def turnOut (f : Ph → Expr → Option D) (elt : Expr) (gs : List Comprehension) (ifs : List Expr) (φ : Ph) : Option (List D) :=
  (evIfs (f φ) ifs).bind fun ok => if ok then
    (match gs with
      | [] => (f φ elt).map fun r => [r]
      | g' :: gs' => (f φ g'.iter).bind fun c => (itemsD c).bind fun its' => evComp f elt (g' :: gs') its' φ)
  else some []
theorem evComp_nilT {f : Ph → Expr → Option D} {elt it tg : Expr} {ifs : List Expr} {gs : List Comprehension} {φ : Ph} : evComp f elt (⟨tg, it, ifs, 0⟩ :: gs) [] φ = some [] := by kernel_rfl
theorem evComp_consT {f : Ph → Expr → Option D} {elt it tg : Expr} {ifs : List Expr} {gs : List Comprehension} {d : D} {r : List D} {φ : Ph} :
    evComp f elt (⟨tg, it, ifs, 0⟩ :: gs) (d :: r) φ = catO ((bindT tg d φ).bind fun φ' => turnOut f elt gs ifs φ') (evComp f elt (⟨tg, it, ifs, 0⟩ :: gs) r φ) := by
  cases gs <;> kernel_rfl
theorem evComp_nil {f : Ph → Expr → Option D} {elt it : Expr} {x : Str} {px : Pos} {ifs : List Expr} {gs : List Comprehension} {φ : Ph} : evComp f elt (⟨.Name x px, it, ifs, 0⟩ :: gs) [] φ = some [] := evComp_nilT
theorem evComp_cons {f : Ph → Expr → Option D} {elt it : Expr} {x : Str} {px : Pos} {ifs : List Expr} {gs : List Comprehension} {d : D} {r : List D} {φ : Ph} :
    evComp f elt (⟨.Name x px, it, ifs, 0⟩ :: gs) (d :: r) φ = catO (turnOut f elt gs ifs (setA x d φ)) (evComp f elt (⟨.Name x px, it, ifs, 0⟩ :: gs) r φ) := evComp_consT
theorem catO_some {a b : Option (List D)} {o : List D} (h : catO a b = some o) : ∃ x y, a = some x ∧ b = some y ∧ o = x ++ y := by
  unfold catO at h
  split at h
  · cases h; exact ⟨_, _, rfl, rfl, rfl⟩
  · cases h

theorem targetsOk_cons {names : Sc} {seen : List Str} {g : Comprehension} {gs : List Comprehension} (h : targetsOk names seen (g :: gs) = true) :
    ∃ tg it ifs, g = ⟨tg, it, ifs, 0⟩ ∧ tgNames tg ≠ [] ∧ (∀ x ∈ tgNames tg, names.lookup x = some .local ∧ okName x = true) ∧ (∀ x ∈ tgNames tg, x ∉ seen) ∧ targetsOk names (tgNames tg ++ seen) gs = true := by
  obtain ⟨tg, it, ifs, a⟩ := g
  by_cases ha : a = 0
  · subst ha
    simp only [targetsOk, Bool.and_eq_true, Bool.not_eq_true', List.all_eq_true, beq_iff_eq, decide_eq_true_eq] at h
    obtain ⟨⟨⟨h1, h2⟩, h3⟩, h4⟩ := h
    refine ⟨tg, it, ifs, rfl, fun q => by rw [q] at h1; simp at h1, fun x hx => ?_, fun x hx q => ?_, h4⟩
    · obtain ⟨⟨⟨a1, a2⟩, a3⟩, a4⟩ := h2 x hx
      exact ⟨a1, by simp [okName, a2, a3]⟩
    · obtain ⟨⟨⟨a1, a2⟩, a3⟩, a4⟩ := h2 x hx
      rw [List.contains_iff_mem.mpr q] at a4; cases a4
  · unfold targetsOk at h
    split at h
    · rename_i q; cases q
    · rename_i q; cases q; exact absurd rfl ha
    · cases h
theorem ItAt.av {X X' : Addr → Prop} {h : Heap} {I : Addr} {its : List D} {i : Nat} (x : ItAt X h I its i) (s : ∀ b o, h.get? b = some o → X' b → X b) : ItAt X' h I its i := by
  rcases x with ⟨l, vs, n, hit, hx, hn, g, y⟩ | z | ⟨d, es, ep, gi, hx, hn, g, y⟩ | ⟨d, es, ep, ks, vs, ⟨f0, b, kk, v, gi, alt⟩, hx, hn, g, e, y, z⟩
  · exact .inl ⟨l, vs, n, hit, fun q => hx (s _ _ g q), hn, g, y.av s⟩
  · exact .inr (.inl z)
  · exact .inr (.inr (.inl ⟨d, es, ep, gi, fun q => hx (s _ _ g q), hn, g, y.av s⟩))
  · exact .inr (.inr (.inr ⟨d, es, ep, ks, vs, ⟨f0, b, kk, v, gi, alt.imp id fun ⟨a, o, e1, e2, e3, e4⟩ => ⟨a, o, e1, e2, fun q => e3 (s _ _ e4 q), e4⟩⟩, fun q => hx (s _ _ g q), hn, g, e, y.av s, z.av s⟩))
theorem ItAt.shr {X X' : Addr → Prop} {h : Heap} {I : Addr} {its : List D} {i : Nat} (x : ItAt X' h I its i) (s : ∀ b, X b → X' b) : ItAt X h I its i := x.av fun b _ _ q => s b q

/-- what the loop leaves -/
noncomputable abbrev LoopR (C : Cfg) (X : Addr → Prop) (sc : Sc) (env : Env) (φ : Ph) (I Dl : Addr) (la : List D) (s : Shared) (R : Result → Shared → Prop) : Prop :=
  ∀ h' tk ys', HOk C h' → Kp (fun b => C.Tb b ∨ b = env.locals ∨ b = Dl ∨ b = I) s.heap h' → EnvOk C X sc env φ h' → (∃ m, h'.Ns env.locals m) → h'.PlainList Dl ys' → RpL X h' la ys'.toList → R (.ok .next) { s with heap := h', toks := tk }
theorem EnvOk.shr {C : Cfg} {X X' : Addr → Prop} {sc : Sc} {env : Env} {φ : Ph} {h : Heap} (x : EnvOk C X' sc env φ h) (s : ∀ b, X b → X' b) (xl : X env.locals) (xc : ∀ y c, env.cells.lookup y = some c → X c) : EnvOk C X sc env φ h :=
  ⟨x.fn, x.gl, x.bl, x.nl, xl, x.nc, xc, x.kd, x.cl, fun y d e => by
    obtain ⟨h1, h2, v, r, q⟩ := x.ld y d e
    exact ⟨h1, h2, v, r.av fun b _ _ q => s b q, q⟩⟩

section
variable {C : Cfg} {k : Nat} {sc : Sc} {env : Env} {A : Around} {elt : Expr} {gens : List Comprehension} {scope : Scope} {pos : Pos} {Dl : Addr} {f : Ph → Expr → Option D}

theorem compLoop_ok (K : Aok k A) (F : ∀ X φ, FOk C k X sc env φ (f φ)) (T : ∀ X φ, TOk C k X sc env φ (f φ))
    (hset : ∀ φ e d, f φ e = some d → ∀ x, foldedSetIterable e env x = pure x) :
    ∀ (suf : List Comprehension) (j : Nat), gens.drop j = suf → ∀ (seen : List Str), targetsOk sc seen suf = true → ∀ (X : Addr → Prop) (I : Addr) (its : List D), Fx C X env I Dl →
    ∀ (rest : List D) (i : Nat) (φ : Ph) (out : List D), (∀ m, its[i + m]? = rest[m]?) → i + rest.length = its.length → (∀ y, φ.lookup y ≠ none → y ∈ seen ∨ sc.lookup y ≠ some .local) → evComp f elt suf rest φ = some out →
    ∀ (s : Shared) (R : Result → Shared → Prop) (la : List D) (ys : Array Value), LI C X sc env φ I Dl its i la ys s.heap → la.length + out.length ≤ 1000 → LoopR C X sc env φ I Dl (la ++ out) s R →
      codeAny (model C.prog C.w) A (.compLoop (.ListComp elt gens scope pos) j (.ref I) (.ref Dl) env) R s := by
  intro suf
  induction suf with
  | nil => intro j _ seen _ X I its _ rest i φ out _ _ _ ev; exact no' ev
  | cons g gs ihs =>
    intro j hj seen htg X I its Z rest
    obtain ⟨tg, it, ifs, rfl, _, hx, hsn, htg'⟩ := targetsOk_cons htg
    have hg : gens[j]? = some ⟨tg, it, ifs, 0⟩ := by
      have := congrArg List.head? hj
      simpa [List.head?_drop] using this
    have hdr : gens.drop (j + 1) = gs := by
      have := congrArg List.tail hj
      simpa [List.tail_drop] using this
    induction rest with
    | nil =>
      intro i φ out hits hlen hφ ev s R la ys L hsz hR
      rw [evComp_nilT] at ev; cases ev
      refine codeAny_of_tree ?_
      show wpAny _ A ((compTurn (.ListComp elt gens scope pos) j (.ref I) (.ref Dl) env).onRaise (fun x => do noteFrame x env; theTreesLotGoes x)) _ _ s
      refine wpAny_noted ?_
      have fin : wpAny (model C.prog C.w) A (pyNext (.ref I)) (fun r s₁ => match r with
          | none => R (.ok .next) s₁
          | some _ => False) (notedBy (model C.prog C.w) A env fun e s' => R (.error e) s') s := by
        refine L.it.done (C := C) K.handled (by simpa using hlen) fun h' k1 => ?_
        refine hR h' s.toks ys (L.H.step k1 fun b q => by subst q; exact ⟨Z.iB, L.it.nja⟩) (k1.mono fun b q => .inr (.inr (.inr q))) (L.e.kpY k1 (fun b q => q ▸ Z.xi) (Ne.symm Z.iL) Z.ic) ?_ ?_ ?_
        · obtain ⟨m, n⟩ := L.ns; exact ⟨m, Ns_kp n k1 (Ne.symm Z.iL)⟩
        · obtain ⟨n, e⟩ := L.pl; exact ⟨n, k1 _ _ (Ne.symm Z.iD) e⟩
        · rw [List.append_nil]; exact L.ra.kp k1 fun b q => q ▸ Z.xi
      cases hn : gens[j + 1]? with
      | none =>
        rw [compTurn_last hg hn]
        refine wpAny_bind (wpAny_standAt (wpAny_bind (wpAny_mono fin (fun r s₁ h₁ => ?_) fun _ _ h' => h')))
        induction r using Option.casesOn with
        | none => exact wpAny_pure h₁
        | some v => exact h₁.elim
      | some g' =>
        have : gs ≠ [] := fun q => by
          rw [← hdr] at q
          have := List.drop_eq_nil_iff.mp q
          rw [List.getElem?_eq_none this] at hn; cases hn
        obtain ⟨g2, gs2, rfl⟩ := List.exists_cons_of_ne_nil this
        obtain ⟨tg2, it2, ifs2, rfl, _⟩ := targetsOk_cons htg'
        have hn2 : gens[j + 1]? = some ⟨tg2, it2, ifs2, 0⟩ := by
          have := congrArg List.head? hdr
          simpa [List.head?_drop] using this
        rw [compTurn_more hg hn2]
        refine wpAny_bind (wpAny_standAt (wpAny_bind (wpAny_mono fin (fun r s₁ h₁ => ?_) fun _ _ h' => h')))
        induction r using Option.casesOn with
        | none => exact wpAny_pure h₁
        | some v => exact h₁.elim
    | cons d rest ihr =>
      intro i φ out hits hlen hφ ev s R la ys L hsz hR
      rw [evComp_consT] at ev
      obtain ⟨o1, o2, e1, e2, rfl⟩ := catO_some ev
      simp only [Option.bind_eq_some_iff] at e1
      obtain ⟨φ1, hbt, e1⟩ := e1
      have hfx : ∀ y d', φ.lookup y = some d' → φ1.lookup y = some d' := fun y d' q => by
        rw [bindT_lookup hbt (fun hy => ?_)]; exact q
        exact (hφ y (by rw [q]; simp)).elim (fun h => hsn y hy h) fun h => h (hx y hy).1
      have hsz1 : la.length + o1.length ≤ 1000 := by rw [List.length_append] at hsz; omega
      -- what follows the turn
      have nextT : ∀ (h' : Heap) (tk : Nat) (ys' : Array Value), LI C X sc env φ1 I Dl its (i + 1) (la ++ o1) ys' h' → Kp (fun b => C.Tb b ∨ b = env.locals ∨ b = Dl ∨ b = I) s.heap h' →
          codeAny (model C.prog C.w) A (.compLoop (.ListComp elt gens scope pos) j (.ref I) (.ref Dl) env) R { s with heap := h', toks := tk } := by
        intro h' tk ys' L' k'
        refine ihr (i + 1) φ o2 (fun m => ?_) (by simp only [List.length_cons] at hlen; omega) hφ e2 _ R (la ++ o1) ys' (L'.subφ hfx) (by simp only [List.length_append] at hsz ⊢; omega) ?_
        · have := hits (m + 1)
          rw [List.getElem?_cons_succ] at this
          rw [← this]; congr 1; omega
        · intro h'' tk'' ys'' H'' k'' e'' n'' p'' r''
          exact hR h'' tk'' ys'' H'' (k'.trans k'') e'' n'' p'' (by rw [← List.append_assoc]; exact r'')
      refine codeAny_of_tree ?_
      show wpAny _ A ((compTurn (.ListComp elt gens scope pos) j (.ref I) (.ref Dl) env).onRaise (fun x => do noteFrame x env; theTreesLotGoes x)) _ _ s
      refine wpAny_noted ?_
      -- the head of the turn: the item, the store, the tests
      have head : ∀ (t : Bool → Sem Fin) (Q : Fin → Shared → Prop) (E : Value → Shared → Prop), (∀ (h' : Heap) (tk : Nat) (ok : Bool), evIfs (f φ1) ifs = some ok → LI C X sc env φ1 I Dl its (i + 1) la ys h' → Kp (fun b => C.Tb b ∨ b = env.locals ∨ b = Dl ∨ b = I) s.heap h' →
          wpAny (model C.prog C.w) A (t ok) Q E { s with heap := h', toks := tk }) →
          wpAny (model C.prog C.w) A (do
            standAt it.pos
            match ← pyNext (.ref I) with
            | none => pure (.done .next)
            | some v =>
              letOwnedTupleGo tg (.ref I) v
              assign tg env v
              let ok ← testsOf ifs true env
              t ok) Q E s := by
        intro t Q E ht
        refine wpAny_bind (wpAny_standAt (wpAny_bind (L.it.item (C := C) L.x Z.xi (by have := hits 0; simpa using this) fun v h1 tk1 r1 it1 k1 => ?_)))
        have L1 := L.next Z k1 it1
        have same : ∀ h2, ItAt X h2 I its (i + 1) → Kp (fun b => b = I) h1 h2 → LI C X sc env φ I Dl its (i + 1) la ys h2 := fun h2 it2 kk => by
          have H2 := L1.H.step kk fun b q => by subst q; exact ⟨Z.iB, L1.it.nja⟩
          exact ⟨H2, L1.x.via H2 kk fun b q _ => .inr (q ▸ it2.ex), L1.e.kpY kk (fun b q => q ▸ Z.xi) (Ne.symm Z.iL) Z.ic, it2, let ⟨m, n⟩ := L1.ns; ⟨m, Ns_kp n kk (Ne.symm Z.iL)⟩, let ⟨n, e⟩ := L1.pl; ⟨n, kk _ _ (Ne.symm Z.iD) e⟩, L1.ra.kp kk fun b q => q ▸ Z.xi⟩
        refine wpAny_bind (letOwned_ok (C := C) (s := { s with heap := h1, toks := tk1 }) it1 Z.xi fun h1' it1' k1' => ?_)
        have L1' := same h1' it1' k1'
        refine wpAny_bind (L1'.assignT (s := { s with heap := h1', toks := tk1 }) K.handled Z hbt hx (r1.kp k1' fun b q => q ▸ Z.xi) fun h2 tk2 L2 k2' => ?_)
        have k2 : Kp (fun b => C.Tb b ∨ b = env.locals ∨ b = Dl ∨ b = I) s.heap h2 := ((k1.mono fun b q => .inr (.inr (.inr q))).trans (k1'.mono fun b q => .inr (.inr (.inr q)))).trans (k2'.mono fun b q => .inr (.inl q))
        cases ei : evIfs (f φ1) ifs with
        | none => simp [turnOut, ei] at e1
        | some ok =>
          refine wpAny_bind (evIfs_ok (T X φ1) K ifs ok ei _ _ _ L2.st fun h3 tk3 H3 k3 => ?_)
          exact ht h3 tk3 ok ei (L2.tb Z H3 k3) (k2.trans (k3.mono fun b q => .inl q))
      cases hgs : gs with
      | nil =>
        subst hgs
        have hn : gens[j + 1]? = none := by
          have := List.drop_eq_nil_iff.mp hdr
          exact List.getElem?_eq_none this
        rw [compTurn_last hg hn]
        refine head _ _ _ fun h3 tk3 ok ei L3 k3 => ?_
        simp only [turnOut, ei, Option.bind_some] at e1
        induction ok using Bool.casesOn with
        | false =>
          simp only [Bool.false_eq_true, if_false, Option.some.injEq] at e1 ⊢; subst e1
          exact wpAny_pure ⟨rfl, nextT h3 tk3 ys (by rw [List.append_nil]; exact L3) k3⟩
        | true =>
          simp only [if_true, Option.map_eq_some_iff] at e1 ⊢
          obtain ⟨r, er, rfl⟩ := e1
          refine wpAny_bind (F X φ1 elt r er A _ _ _ K L3.st fun v h4 tk4 H4 k4 r4 => ?_)
          have L4 := L3.tb Z H4 k4
          have hl : ys.size ≤ sizeLine := by
            have := L4.ra.length
            simp only [Array.length_toList] at this
            rw [sizeLine_eq]; omega
          refine wpAny_bind (wpAny_list_append_plain (hsz := hl) L4.pl fun h5 pl5 hs5 => ?_)
          refine wpAny_pure ⟨rfl, nextT h5 tk4 _ (L4.app Z r4 pl5 hs5) ?_⟩
          exact (k3.trans (k4.mono fun b q => .inl q)).trans (.same hs5 (.inr (.inr (.inl rfl))))
      | cons g2 gs2 =>
        subst hgs
        obtain ⟨tg2, it2, ifs2, rfl, _⟩ := targetsOk_cons htg'
        have hn2 : gens[j + 1]? = some ⟨tg2, it2, ifs2, 0⟩ := by
          have := congrArg List.head? hdr
          simpa [List.head?_drop] using this
        rw [compTurn_more hg hn2]
        refine head _ _ _ fun h3 tk3 ok ei L3 k3 => ?_
        simp only [turnOut, ei, Option.bind_some] at e1
        induction ok using Bool.casesOn with
        | false =>
          simp only [Bool.false_eq_true, if_false, Option.some.injEq] at e1 ⊢; subst e1
          exact wpAny_pure ⟨rfl, nextT h3 tk3 ys (by rw [List.append_nil]; exact L3) k3⟩
        | true =>
          simp only [if_true, Option.bind_eq_some_iff] at e1 ⊢
          obtain ⟨c, ec, its2, ei2, ev2⟩ := e1
          refine wpAny_bind (F X φ1 it2 c ec A _ _ _ K L3.st fun v h4 tk4 H4 k4 r4 => ?_)
          have L4 := L3.tb Z H4 k4
          refine wpAny_bind (wpAny_standAt (wpAny_bind (wpAny_of_eq (hset _ _ _ ec v) (wpAny_bind (wpAny_holding ?_)))))
          refine iter_ok (C := C) L4.x r4 ei2 fun o _ hit => ?_
          -- the inner loop: its iterator is new
          have fr := get_size h4
          have av : ∀ b o, h4.get? b = some o → (X b ∨ b = h4.objs.size) → X b := fun b ob eb q => q.elim id fun q => by subst q; rw [fr] at eb; cases eb
          have kp5 : Kp (fun _ => False) h4 (h4.push o) := .push o
          have Z2 : Fx C (fun b => X b ∨ b = h4.objs.size) env h4.objs.size Dl := by
            have neX : ∀ b, X b → b ≠ h4.objs.size := fun b hb q => by
              obtain ⟨ob, eb⟩ := L4.x.ex b hb
              rw [q, fr] at eb; cases eb
            exact ⟨.inr rfl, .inl Z.xd, Ne.symm (neX _ Z.xd), Ne.symm (neX _ L4.e.xl), Z.dL, L4.H.baseNone fr, Z.dB, Z.lB, fun q => neX _ (L4.x.tb _ q) rfl, Z.dT, fun y c hc => neX _ (L4.e.xc y c hc), Z.dc⟩
          have L5 : LI C (fun b => X b ∨ b = h4.objs.size) sc env φ1 h4.objs.size Dl its2 0 la ys (h4.push o) := by
            refine ⟨L4.H.push o, ⟨fun b q => .inl (L4.x.tb b q), fun b q => ?_, fun b o q => .inl (L4.x.bs b o q)⟩, (L4.e.av av fun b q => .inl q).kpY kp5 (fun _ q => q.elim) (fun q => q) (fun _ _ _ q => q), hit, ?_, ?_, (L4.ra.av av).kp kp5 fun _ q => q.elim⟩
            · rcases q with q | q
              · obtain ⟨ob, eb⟩ := L4.x.ex b q
                exact ⟨ob, Heap.get?_push_of_some _ eb⟩
              · subst q
                exact hit.ex
            · obtain ⟨m, n⟩ := L4.ns; exact ⟨m, n.push o⟩
            · obtain ⟨n, e⟩ := L4.pl; exact ⟨n, Heap.get?_push_of_some _ e⟩
          refine wpAny_bind (wpAny_runOwn ?_)
          show codeAny (model C.prog C.w) A _ _ _
          have loop := ihs (j + 1) hdr _ htg' _ _ its2 Z2 its2 0 φ1 o1 (fun m => by rw [Nat.zero_add]) (Nat.zero_add _) (fun y hy => by
            by_cases q : y ∈ tgNames tg
            · exact .inl (List.mem_append_left _ q)
            · rw [bindT_lookup hbt q] at hy; exact (hφ y hy).imp (fun z => List.mem_append_right _ z) id) ev2 { s with heap := h4.push o, toks := tk4 } (fun r s' => match r with
              | .ok _ => wpAny (model C.prog C.w) A (again (.compLoop (.ListComp elt gens scope pos) j (.ref I) (.ref Dl) env)) (fun fin s' => match fin with
                  | .done f => R (.ok f) s'
                  | .again c' => c'.quiet = true ∧ codeAny (model C.prog C.w) A c' R s') (notedBy (model C.prog C.w) A env fun e s' => R (.error e) s') s'
              | .error e => cameBackBy (model C.prog C.w) A env (notedBy (model C.prog C.w) A env fun e s' => R (.error e) s') e s') la ys L5 hsz1 (by
            intro h6 tk6 ys6 H6 k6 e6 n6 p6 r6
            refine wpAny_pure ⟨rfl, nextT h6 tk6 ys6 ?_ ?_⟩
            · have k46 : Kp (fun b => C.Tb b ∨ b = env.locals ∨ b = Dl ∨ b = h4.objs.size) h4 h6 := (kp5.mono fun _ q => q.elim).trans k6
              refine ⟨H6, L4.x.via H6 k46 ?_, e6.shr (fun b q => .inl q) L4.e.xl L4.e.xc, ?_, n6, p6, r6.av fun b _ _ q => .inl q⟩
              · rintro b (q | q | q | q) hb
                · exact .inl q
                · subst q; obtain ⟨m, n⟩ := n6; exact .inr (Ns_ex n)
                · subst q; obtain ⟨n, e⟩ := p6; exact .inr ⟨_, e⟩
                · subst q; obtain ⟨ob, eb⟩ := L4.x.ex _ hb; rw [fr] at eb; cases eb
              · have it4 := L4.it
                have itx := (ItAt.av it4 av).kp (Y := fun b => C.Tb b ∨ b = env.locals ∨ b = Dl ∨ b = h4.objs.size) k46 ?_ ?_
                · exact itx.shr fun b q => .inl q
                · rintro b (q | q | q | q)
                  · exact .inl (L4.x.tb b q)
                  · exact .inl (q ▸ L4.e.xl)
                  · exact .inl (q ▸ Z.xd)
                  · exact .inr q
                · rintro (q | q | q | q)
                  · exact Z.iT q
                  · exact Z.iL q
                  · exact Z.iD q
                  · obtain ⟨ob, eb⟩ := L4.x.ex _ Z.xi
                    rw [q, fr] at eb; cases eb
            · refine (k3.trans (k4.mono fun b q => .inl q)).trans fun b o nb eb => ?_
              refine k6 b o ?_ (Heap.get?_push_of_some _ eb)
              rintro (q | q | q | q)
              · exact nb (.inl q)
              · exact nb (.inr (.inl q))
              · exact nb (.inr (.inr (.inl q)))
              · rw [q] at eb
                rw [show ({ s with heap := h4, toks := tk4 } : Shared).heap.objs.size = h4.objs.size from rfl, fr] at eb; cases eb)
          exact compStart_at hn2 loop (hit.self (C := C) loop)
end
end Mine
namespace Mine
open PySem PySem.Spec PySem.Calls PyProof.Rows PySem.W
set_option linter.unusedVariables false

noncomputable def clOf (env : Env) : Sc → List (Str × Addr) → List (Str × Addr)
  | [], acc => acc
  | (n, k) :: r, acc => if k == .free then clOf env r ((n, (env.cells.lookup n).getD 0) :: acc) else clOf env r acc
theorem closure_eq {scope : Scope} {env : Env} (h : ∀ p ∈ scope.names, p.2 = .free → ∃ c, env.cells.lookup p.1 = some c) : closureFor scope env = pure (clOf env scope.names []) := by
  unfold closureFor
  suffices ∀ (names : Sc) (acc : List (Str × Addr)), (∀ p ∈ names, p.2 = .free → ∃ c, env.cells.lookup p.1 = some c) →
      (forIn names acc fun (x : Str × NameKind) (cs : List (Str × Addr)) => (if x.2 == .free then (do let a ← cellOf env x.1; pure (ForInStep.yield ((x.1, a) :: cs))) else pure (ForInStep.yield cs) : Sem _)) = pure (clOf env names acc) by
    have := this scope.names [] h
    simp only [pure_bind] at this ⊢
    have e := congrArg (fun t => t >>= fun r => (pure r : Sem (List (Str × Addr)))) this
    simpa using e
  intro names
  induction names with
  | nil => intro acc _; rfl
  | cons p r ih =>
    intro acc hp
    obtain ⟨n, k⟩ := p
    rw [List.forIn_cons]
    unfold clOf
    by_cases hk : k = .free
    · subst hk
      obtain ⟨c, hc⟩ := hp (n, .free) List.mem_cons_self rfl
      simp only [beq_self_eq_true, if_true, cellOf, hc, pure_bind, Option.getD_some]
      exact ih _ fun q hq => hp q (List.mem_cons_of_mem _ hq)
    · have : (k == NameKind.free) = false := by simpa using hk
      simp only [this, Bool.false_eq_true, if_false, pure_bind]
      exact ih _ fun q hq => hp q (List.mem_cons_of_mem _ hq)
theorem clOf_sound {env : Env} : ∀ (names : Sc) (acc : List (Str × Addr)), (∀ p ∈ names, p.2 = .free → ∃ c, env.cells.lookup p.1 = some c) → (∀ y c, acc.lookup y = some c → env.cells.lookup y = some c) → ∀ y c, (clOf env names acc).lookup y = some c → env.cells.lookup y = some c
  | [], acc, _, h, y, c, e => h y c e
  | (n, k) :: r, acc, hp, h, y, c, e => by
    unfold clOf at e
    have hr : ∀ p ∈ r, p.2 = .free → ∃ c, env.cells.lookup p.1 = some c := fun q hq => hp q (List.mem_cons_of_mem _ hq)
    split at e
    · rename_i hk
      obtain ⟨c', hc'⟩ := hp (n, k) List.mem_cons_self (by simpa using hk)
      refine clOf_sound r _ hr (fun z d ez => ?_) y c e
      rw [List.lookup_cons] at ez
      split at ez
      · rename_i hz
        cases ez
        have : z = n := by simpa using hz
        subst this
        rw [hc']; rfl
      · exact h z d ez
    · exact clOf_sound r _ hr h y c e
theorem clOf_has {env : Env} : ∀ (names : Sc) (acc : List (Str × Addr)) (x : Str), ((x, NameKind.free) ∈ names ∨ (∃ c, acc.lookup x = some c)) → ∃ c, (clOf env names acc).lookup x = some c
  | [], acc, x, h => h.elim (fun q => by cases q) id
  | (n, k) :: r, acc, x, h => by
    unfold clOf
    split
    · rename_i hk
      refine clOf_has r _ x ?_
      by_cases q : x = n
      · subst q; exact .inr ⟨_, by simp [List.lookup_cons]; rfl⟩
      · refine h.imp (fun z => ?_) fun ⟨c, hc⟩ => ⟨c, by rw [List.lookup_cons, beq_eq_false_iff_ne.mpr q]; exact hc⟩
        rcases List.mem_cons.mp z with e | e
        · exact absurd (Prod.mk.inj e).1 q
        · exact e
    · rename_i hk
      refine clOf_has r _ x (h.imp (fun z => ?_) id)
      rcases List.mem_cons.mp z with e | e
      · have := (Prod.mk.inj e).2
        subst this
        simp at hk
      · exact e

theorem lookup_relabel {env : Env} {scope : Scope} (x : Str) : (relabel scope env).names.lookup x = scope.names.lookup x ∨ (scope.names.lookup x = some .free ∧ (relabel scope env).names.lookup x = some .cell) := by
  unfold relabel
  dsimp only
  generalize scope.names = names
  induction names with
  | nil => exact .inl rfl
  | cons p r ih =>
    obtain ⟨n, k⟩ := p
    rw [List.map_cons]
    by_cases hx : x = n
    · subst hx
      by_cases hc : (k == NameKind.free && env.scope.kind == .function && env.kindOf x == some .cell) = true
      · rw [if_pos hc, List.lookup_cons, List.lookup_cons, beq_self_eq_true]
        simp only [Bool.and_eq_true, beq_iff_eq] at hc
        exact .inr ⟨by rw [hc.1.1], rfl⟩
      · rw [if_neg hc, List.lookup_cons, List.lookup_cons, beq_self_eq_true]
        exact .inl rfl
    · have hb := beq_eq_false_iff_ne.mpr hx
      by_cases hc : (k == NameKind.free && env.scope.kind == .function && env.kindOf n == some .cell) = true
      · rw [if_pos hc, List.lookup_cons, List.lookup_cons, hb]; exact ih
      · rw [if_neg hc, List.lookup_cons, List.lookup_cons, hb]; exact ih

theorem lookup_keepFree {names : Sc} {x : Str} : ∀ {φ : Ph} {d : D}, (keepFree names φ).lookup x = some d → names.lookup x = some .free ∧ φ.lookup x = some d
  | [], d, e => by simp [keepFree] at e
  | (y, c) :: r, d, e => by
    unfold keepFree at e
    rw [List.filter_cons] at e
    split at e
    · rename_i hp
      rw [List.lookup_cons] at e
      split at e
      · rename_i hx
        cases e
        have : x = y := by simpa using hx
        subst this
        exact ⟨by simpa using hp, by rw [List.lookup_cons, beq_self_eq_true]⟩
      · rename_i hx
        obtain ⟨h1, h2⟩ := lookup_keepFree (φ := r) e
        exact ⟨h1, by rw [List.lookup_cons, hx]; exact h2⟩
    · rename_i hp
      obtain ⟨h1, h2⟩ := lookup_keepFree (φ := r) e
      refine ⟨h1, ?_⟩
      rw [List.lookup_cons]
      split
      · rename_i hx
        have : x = y := by simpa using hx
        subst this
        exact absurd (by simpa using h1) hp
      · exact h2

theorem scOk_free {sc names : Sc} (h : scOk sc names = true) : ∀ p ∈ names, p.2 = .free → (sc.lookup p.1 = some .cell ∨ sc.lookup p.1 = some .free) ∧ names.lookup p.1 = some .free := fun p hp hk => by
  have := List.all_eq_true.mp h p hp
  rw [hk] at this
  simpa using this
theorem scOk_local {sc names : Sc} (h : scOk sc names = true) : ∀ p ∈ names, p.2 = .local → names.lookup p.1 = some .local := fun p hp hk => by
  have := List.all_eq_true.mp h p hp
  rw [hk] at this
  simpa using this
theorem scOk_cell {sc names : Sc} (h : scOk sc names = true) : ∀ p ∈ names, p.2 ≠ .cell := fun p hp hk => by
  have := List.all_eq_true.mp h p hp
  rw [hk] at this
  simp at this
theorem mem_lookup {names : Sc} {x : Str} {k : NameKind} (h : names.lookup x = some k) : (x, k) ∈ names := mem_of_lookup h
end Mine
namespace Mine
open PySem PySem.Spec PySem.Calls PyProof.Rows PySem.W
set_option linter.unusedVariables false

section
variable {C : Cfg} {k : Nat} {sc : Sc} {env : Env} {φ : Ph} {A : Around} {X : Addr → Prop} {E : Value → Shared → Prop} {s : Shared} {elt : Expr} {scope : Scope} {pos : Pos} {f : Ph → Expr → Option D}

theorem neN' {a b : Nat} (h : ¬ (a = b)) : @Ne Addr a b := h
theorem compBlock_ok {g : Comprehension} {gs : List Comprehension} {its l : List D} {c : D} {v : Value} {RR : Value → Addr → Result → Shared → Prop}
    (K : Aok k A) (S : St C X sc env φ s.heap) (hsc : scOk sc scope.names = true) (htg : targetsOk scope.names [] (g :: gs) = true) (hkind : scope.kind = .function)
    (F : ∀ X env φ, FOk C k X scope.names env φ (f φ)) (T : ∀ X env φ, TOk C k X scope.names env φ (f φ)) (hset : ∀ φ e d, f φ e = some d → ∀ env x, foldedSetIterable e env x = pure x)
    (rv : Rp X s.heap c v) (hi : itemsD c = some its) (hl : evComp f elt (g :: gs) its (keepFree scope.names φ) = some l) (hsz : l.length ≤ 1000)
    (hR : ∀ Dl Cc h' tk m', HOk C h' → Kp C.Tb s.heap h' → Rp (fun b => X b ∨ b = Cc) h' (.lst l) (.ref Dl) → h'.Ns Cc m' → s.heap.get? Cc = none → Dl ≠ Cc → s.heap.get? Dl = none → h'.objs.size > Cc → RR (.ref Dl) Cc (.ok .next) { s with heap := h', toks := tk }) :
    wpAny (model C.prog C.w) A (pyIter v) (fun it s₂ => wpAny (model C.prog C.w) A (newList []) (fun acc s₃ => wpAny (model C.prog C.w) A (newFunctionEnv scope env.globals (clOf env scope.names []) [] env.qual none .none (some env)) (fun cenv s₄ =>
      codeAny (model C.prog C.w) A (.compStart (.ListComp elt (g :: gs) scope pos) 0 it acc { cenv with scope := relabel scope env }) (RR acc cenv.locals) s₄) E s₃) E s₂) E s := by
  obtain ⟨tg, it, ifs, rfl, _, hx, _, htg'⟩ := targetsOk_cons htg
  refine iter_ok (C := C) S.x rv hi fun o _ hit => ?_
  refine wpAny_newObj_type (wpAny_newFunctionEnv (scOk_cell hsc) (by intro y hy; simp at hy) (fun h₁ hns₁ hsb₁ => ?_) hkind)
  dsimp only at hns₁ hsb₁ ⊢
  -- names for the three new objects
  have fr0 := get_size s.heap
  generalize hN : s.heap.objs.size = N at *
  generalize hH1 : s.heap.push o = H1 at *
  have e1 : H1.objs.size = N + 1 := by rw [← hH1, Heap.size_push, hN]
  generalize hH2 : H1.push { cls := .type "list", dict := none, data := .seq ([] : List Value).toArray } = H2 at *
  have e2 : H2.objs.size = N + 2 := by rw [← hH2, Heap.size_push, e1]
  have k1 : ∀ b o, s.heap.get? b = some o → H1.get? b = some o := fun b o e => hH1 ▸ Heap.get?_push_of_some _ e
  have k2 : ∀ b o, H1.get? b = some o → H2.get? b = some o := fun b o e => hH2 ▸ Heap.get?_push_of_some _ e
  have k3 : ∀ b o, H2.get? b = some o → h₁.get? b = some o := fun b o e => hsb₁.extBut b o (Nat.ne_of_lt (Heap.lt_size e)) (Heap.get?_push_of_some _ e)
  have k0 : ∀ b o, s.heap.get? b = some o → h₁.get? b = some o := fun b o e => k3 b o (k2 b o (k1 b o e))
  have lt0 : ∀ {b : Nat} {o}, s.heap.get? b = some o → b < N := fun e => hN ▸ Heap.lt_size e
  have frN : ∀ b : Nat, N ≤ b → s.heap.get? b = none := fun b hb => by
    cases q : s.heap.get? b with
    | none => rfl
    | some o => exact absurd (lt0 q) (Nat.not_lt.mpr hb)
  have XltN : ∀ b : Nat, X b → b < N := fun b hb => by obtain ⟨ob, eb⟩ := S.x.ex b hb; exact lt0 eb
  have hCsz : H2.objs.size ≠ N + 1 := by rw [e2]; omega
  rw [e1]
  rw [e2] at hns₁ hsb₁ ⊢
  show codeAny (model C.prog C.w) A (.compStart (.ListComp elt (⟨tg, it, ifs, 0⟩ :: gs) scope pos) 0 (.ref N) (.ref (N + 1)) (compEnvC scope (clOf env scope.names []) (N + 2) env)) (RR (.ref (N + 1)) (N + 2)) _
  generalize hX' : (fun b => X b ∨ b = N ∨ b = N + 1 ∨ b = N + 2) = X'
  have X'of : ∀ b, (X b ∨ b = N ∨ b = N + 1 ∨ b = N + 2) → X' b := fun b h => by rw [← hX']; exact h
  have X'to : ∀ b, X' b → (X b ∨ b = N ∨ b = N + 1 ∨ b = N + 2) := fun b h => by rw [← hX'] at h; exact h
  have hcells : ∀ p ∈ scope.names, p.2 = .free → ∃ c, env.cells.lookup p.1 = some c := fun p hp hk => S.e.cl p.1 ((scOk_free hsc p hp hk).1)
  have hclL : ∀ y c, (clOf env scope.names []).lookup y = some c → env.cells.lookup y = some c := clOf_sound _ _ hcells (fun y c e => by simp at e)
  have hacc : h₁.PlainList (N + 1) #[] := ⟨0, k3 _ _ (by rw [← hH2, ← e1]; exact Heap.get?_push_size _ rfl)⟩
  have hitx : ItAt X' h₁ N its 0 := by
    have z := ItAt.av hit (X' := X') fun b ob eb q => by
      rcases X'to b q with q | q | q | q
      · exact .inl q
      · exact .inr q
      · subst q; have := Heap.lt_size eb; rw [e1] at this; exact absurd this (Nat.lt_irrefl _)
      · subst q; have : N + 2 < N + 1 := e1 ▸ Heap.lt_size eb; omega
    exact z.kp (Y := fun _ => False) (fun b ob _ e => k3 b ob (k2 b ob e)) (fun _ q => q.elim) id
  have Z : Fx C X' (compEnvC scope (clOf env scope.names []) (N + 2) env) N (N + 1) := by
    refine ⟨X'of _ (.inr (.inl rfl)), X'of _ (.inr (.inr (.inl rfl))), neN' (by omega), neN' (a := N) (b := N + 2) (by omega), neN' (a := N + 1) (b := N + 2) (by omega), S.H.baseNone (frN _ (Nat.le_refl _)), S.H.baseNone (frN _ (by omega)), S.H.baseNone (frN _ (by show N ≤ N + 2; omega)),
      fun q => absurd (XltN _ (S.x.tb _ q)) (by omega), fun q => absurd (XltN _ (S.x.tb _ q)) (by omega), fun y c hc => ?_, fun y c hc => ?_⟩
    · have := XltN _ (S.e.xc y c (hclL y c hc)); exact neN' (by omega)
    · have := XltN _ (S.e.xc y c (hclL y c hc)); exact neN' (by omega)
  have Ee : EnvOk C X' scope.names (compEnvC scope (clOf env scope.names []) (N + 2) env) (keepFree scope.names φ) h₁ := by
    refine ⟨hkind, S.e.gl, S.e.bl, fun q => absurd (XltN _ (S.x.tb _ q)) (by show ¬ (N + 2) < N; omega), X'of _ (.inr (.inr (.inr rfl))), fun y c hc => S.e.nc y c (hclL y c hc), fun y c hc => X'of _ (.inl (S.e.xc y c (hclL y c hc))),
      fun y => lookup_relabel y, fun y hy => ?_, fun y d ey => ?_⟩
    · rcases hy with hy | hy
      · exact absurd rfl (scOk_cell hsc _ (mem_lookup hy))
      · exact clOf_has _ _ _ (.inl (mem_lookup hy))
    · obtain ⟨hf, ey'⟩ := lookup_keepFree ey
      obtain ⟨h1, h2, u, ru, q⟩ := S.e.ld y d ey'
      refine ⟨h1, h2, u, (ru.av (X' := X') fun b ob eb q => ?_).kp (Y := fun _ => False) (fun b ob _ e => k0 b ob e) (fun _ q => q.elim), .inr ⟨.inr hf, ?_⟩⟩
      · rcases X'to b q with q | q | q | q
        · exact q
        · exact absurd (lt0 eb) (by rw [q]; omega)
        · exact absurd (lt0 eb) (by rw [q]; omega)
        · exact absurd (lt0 eb) (by rw [q]; omega)
      · obtain ⟨hsc1, hsc2⟩ := scOk_free hsc _ (mem_lookup hf) rfl
        rcases q with ⟨a, _⟩ | ⟨a, cc, hcc, oc, hoc, hdc⟩
        · rcases hsc1 with z | z <;> (dsimp only at z; rw [z] at a; cases a)
        · obtain ⟨c2, hc2⟩ := clOf_has (env := env) scope.names [] y (.inl (mem_lookup hf))
          have := hclL y c2 hc2
          rw [hcc] at this; cases this
          exact ⟨cc, hc2, oc, k0 _ _ hoc, hdc⟩
  have L : LI C X' scope.names (compEnvC scope (clOf env scope.names []) (N + 2) env) (keepFree scope.names φ) N (N + 1) its 0 [] #[] h₁ := by
    refine ⟨S.H.keeps k0, ⟨fun b q => X'of _ (.inl (S.x.tb b q)), fun b q => ?_, fun b o q => X'of _ (.inl (S.x.bs b o q))⟩, Ee, hitx, ⟨_, hns₁⟩, hacc, by simp only [RpL]⟩
    rcases X'to b q with q | q | q | q
    · obtain ⟨ob, eb⟩ := S.x.ex b q; exact ⟨ob, k0 _ _ eb⟩
    · subst q
      exact hitx.ex
    · subst q; obtain ⟨n, e⟩ := hacc; exact ⟨_, e⟩
    · subst q; exact Ns_ex hns₁
  have loop := compLoop_ok (elt := elt) (gens := ⟨tg, it, ifs, 0⟩ :: gs) (scope := scope) (pos := pos) K (fun X φ => F X _ φ) (fun X φ => T X _ φ) (fun φ e d he x => hset φ e d he _ x)
    (⟨tg, it, ifs, 0⟩ :: gs) 0 rfl [] htg X' N its Z its 0 (keepFree scope.names φ) l (fun m => by rw [Nat.zero_add]) (Nat.zero_add _) (fun y hy => .inr fun q => by
      cases e : (keepFree scope.names φ).lookup y with
      | none => exact hy e
      | some d => have := (lookup_keepFree e).1; rw [this] at q; cases q) hl
    { s with heap := h₁, toks := s.toks + ([] : List (Str × Value)).length } (RR (.ref (N + 1)) (N + 2)) [] #[] L (by simpa using hsz) (by
      intro h' tk ys' H' k' e' n' p' r'
      obtain ⟨m', n'⟩ := n'
      obtain ⟨n, ep⟩ := p'
      refine hR (N + 1) (N + 2) h' tk m' H' (fun b ob nb eb => k' b ob ?_ (k0 _ _ eb)) ?_ n' (frN _ (by omega)) (neN' (by omega)) (frN _ (by omega)) (Ns_ex n' |>.elim fun _ e => Heap.lt_size e)
      · rintro (q | q | q | q)
        · exact nb q
        · exact absurd (lt0 eb) (by rw [q]; show ¬ (N + 2 < N); omega)
        · exact absurd (lt0 eb) (by rw [q]; omega)
        · exact absurd (lt0 eb) (by rw [q]; omega)
      · simp only [Rp]
        refine ⟨N + 1, ys', n, rfl, ?_, ep, r'.av fun b ob _ q => X'of _ (q.elim .inl fun q => .inr (.inr (.inr q)))⟩
        rintro (q | q)
        · exact absurd (XltN _ q) (by omega)
        · exact absurd q (neN' (a := N + 1) (b := N + 2) (by omega)))
  exact compStart_at rfl loop (hitx.self (C := C) loop)
end
end Mine
namespace Mine
open PySem PySem.Spec PySem.Calls PyProof.Rows PySem.W
set_option linter.unusedVariables false

section
variable {C : Cfg} {k : Nat} {sc : Sc} {env : Env} {φ : Ph} {A : Around} {X : Addr → Prop} {E : Value → Shared → Prop} {s : Shared}

theorem subTail_ok {value slice : Expr} {o i : Value} {T id : String} {Q : Value → Shared → Prop} (hT : s.TypeIs o T) (hl : typeLookup (.type T) "__getitem__" = pure (some (.builtin id)))
    (h : wpAny (model C.prog C.w) A (getItem o i) Q E s) : wpAny (model C.prog C.w) A (subscriptTail value slice o i) Q E s := by
  unfold subscriptTail
  refine wpAny_bind ?_
  rw [getitemInPython_of_ne hT.not_modules]
  refine wpAny_bind (wpAny_specialOf hT hl ?_)
  have fin : wpAny (model C.prog C.w) A (subscripted slice false o i) (fun r s₃ => wpAny (model C.prog C.w) A (letTemporaryGo value o r >>= fun _ => pure r) Q E s₃) E s := by
    have hs : ∃ l, subscripted slice false o i = operate l (getItem o i) := by
      induction slice using Expr.casesOn with
      | Slice lo up st p => induction st using Option.casesOn with
        | none => exact ⟨[i, o], rfl⟩
        | some st => exact ⟨[o, i], rfl⟩
      | _ => exact ⟨[o, i], rfl⟩
    obtain ⟨l, hs⟩ := hs
    rw [hs]
    exact wpAny_operate' (wpAny_mono h (fun r s₃ h₃ => wpAny_bind (wpAny_letTemporaryGo (wpAny_pure h₃))) fun _ _ x => x)
  first
    | exact wpAny_pure (wpAny_bind fin)
    | exact wpAny_bind (wpAny_pure (wpAny_bind fin))
    | exact wpAny_bind fin

theorem idx_list {value slice : Expr} {l : List D} {i : Int} {d : D} {v u : Value} {Q : Value → Shared → Prop} (S : St C X sc env φ s.heap) (rl : Rp X s.heap (.lst l) v) (ri : Rp X s.heap (.int i) u) (e : idxD l i = some d) (h : Ret C X s d Q) :
    wpAny (model C.prog C.w) A (subscriptTail value slice v u) Q E s := by
  obtain ⟨a, vs, n, rfl, _, g, r⟩ := rl.lst_inv
  obtain ⟨t, rfl⟩ := ri.int_inv
  unfold idxD at e
  split at e
  · rename_i q
    simp only [Bool.and_eq_true, decide_eq_true_eq] at q
    obtain ⟨w, hw, rw'⟩ := r.get e
    have hL : s.heap.IsList a vs := ⟨_, g, rfl, n, rfl⟩
    exact subTail_ok hL.typeIs slot_list_getitem.lookup (wpAny_getItem_list hL q.1 (by omega) (by simpa using hw) (h.same S.H rw' s.toks))
  · cases e
theorem idx_tuple {value slice : Expr} {l : List D} {i : Int} {d : D} {v u : Value} {Q : Value → Shared → Prop} (S : St C X sc env φ s.heap) (rl : Rp X s.heap (.tup l) v) (ri : Rp X s.heap (.int i) u) (e : idxD l i = some d) (h : Ret C X s d Q) :
    wpAny (model C.prog C.w) A (subscriptTail value slice v u) Q E s := by
  obtain ⟨a, vs, n, rfl, _, g, r⟩ := rl.tup_inv
  obtain ⟨t, rfl⟩ := ri.int_inv
  unfold idxD at e
  split at e
  · rename_i q
    simp only [Bool.and_eq_true, decide_eq_true_eq] at q
    obtain ⟨w, hw, rw'⟩ := r.get e
    have hL : IsTup s.heap a vs := ⟨_, g, rfl, n, rfl⟩
    have hi : i.toNat < vs.size := by
      have := (List.getElem?_eq_some_iff.mp hw).1
      simpa using this
    exact subTail_ok hL.typeIs slot_tuple_getitem.lookup (getItem_tuple hL (by omega) (by omega) (j := i.toNat) (by simp [seqIndex?]; omega) (by simpa using hw) (h.same S.H rw' s.toks))
  · cases e

theorem KeysAt.dictH (prog : Program) (w : World) {X : Addr → Prop} {h : Heap} : ∀ {ks : List (Int × Int)} {es : List DictEntry} {l : List D}, KeysAt X h ks es → RpL X h l (es.map (·.val)) →
    ∃ xs : List (List Int × Addr × Value), es = xs.map (entryOfKey (ik prog w)) ∧ (∀ x ∈ xs, (ik prog w).is h x.1 x.2.1) ∧ xs.map (·.1) = ks.map (fun k => [k.1, k.2]) ∧ ∀ q d, dget ks l q = some d → ∃ p, atKey xs [q.1, q.2] = some p ∧ Rp X h d p.2
  | [], _, l, x, y => by
    rw [show _ = [] from x]
    exact ⟨[], rfl, by simp, rfl, fun q d e => by simp [dget] at e⟩
  | k :: ks, _, l, x, y => by
    obtain ⟨e, r, rfl, ⟨e2, a, n, t, u, e3, hx, g⟩, x'⟩ := x
    cases l with
    | nil => simp [RpL] at y
    | cons d l =>
      simp only [List.map_cons, RpL] at y
      obtain ⟨v, r', e4, r1, r2⟩ := y
      cases e4
      obtain ⟨xs, f1, f2, f3, f4⟩ := KeysAt.dictH prog w x' r2
      refine ⟨([k.1, k.2], a, e.val) :: xs, ?_, fun z hz => ?_, by simp [f3], fun q d' hq => ?_⟩
      · rw [List.map_cons, ← f1]
        obtain ⟨eh, ek, ev⟩ := e
        dsimp only at e2 e3
        subst e2 e3
        rfl
      · rcases List.mem_cons.mp hz with rfl | hz
        · exact ⟨_, _, n, g, rfl, rfl, .cons (by simp [intKind, Value.isInt]) (.cons (by simp [intKind, Value.isInt]) .nil)⟩
        · exact f2 z hz
      · unfold dget at hq
        by_cases hk : k = q
        · subst hk
          rw [if_pos rfl] at hq; cases hq
          exact ⟨(a, e.val), by simp [atKey], r1⟩
        · rw [if_neg hk] at hq
          obtain ⟨p, p1, p2⟩ := f4 q d' hq
          refine ⟨p, ?_, p2⟩
          have ne : ¬ ([k.1, k.2] = [q.1, q.2]) := fun w => hk (by simp at w; exact Prod.ext w.1 w.2)
          unfold atKey at p1 ⊢
          rw [List.find?_cons]
          simp only [decide_eq_false ne]
          exact p1
theorem Rp.dictH {prog : Program} {w : World} {X : Addr → Prop} {h : Heap} {ks : List (Int × Int)} {l : List D} {v : Value} (x : Rp X h (.dct ks l) v) :
    ∃ a xs, v = .ref a ∧ ¬ X a ∧ (a == sysModules) = false ∧ h.DictOfH (ik prog w) a xs ∧ ∀ q d, dget ks l q = some d → ∃ p, atKey xs [q.1, q.2] = some p ∧ Rp X h d p.2 := by
  obtain ⟨a, es, ep, rfl, hx, hm, g, nd, y, r⟩ := x.dct_inv
  obtain ⟨xs, f1, f2, f3, f4⟩ := y.dictH prog w r
  refine ⟨a, xs, rfl, hx, hm, ⟨_, es, ep, g, ⟨rfl, rfl, rfl⟩, rfl, f1, f2, ?_⟩, f4⟩
  rw [f3]
  refine List.pairwise_map.mpr (List.Pairwise.imp (fun {a b} hne q => hne ?_) nd)
  simp at q
  exact Prod.ext q.1 q.2
theorem idx_dict {value slice : Expr} {ks : List (Int × Int)} {l : List D} {i j : Int} {d : D} {v u : Value} {Q : Value → Shared → Prop} (K : Aok k A) (S : St C X sc env φ s.heap) (rd : Rp X s.heap (.dct ks l) v) (ri : Rp X s.heap (.tup [.int i, .int j]) u) (e : dget ks l (i, j) = some d) (h : Ret C X s d Q) :
    wpAny (model C.prog C.w) A (subscriptTail value slice v u) Q E s := by
  obtain ⟨a, xs, rfl, _, _, hm, hg⟩ := rd.dictH (prog := C.prog) (w := C.w)
  obtain ⟨r, t, t', n, rfl, _, g⟩ := ri.pair_inv
  obtain ⟨p, p1, p2⟩ := hg _ _ e
  have hkey : (ik C.prog C.w).is s.heap [i, j] r := ⟨_, _, n, g, rfl, rfl, .cons (by simp [intKind, Value.isInt]) (.cons (by simp [intKind, Value.isInt]) .nil)⟩
  exact subTail_ok hm.typeIs slot_dict_getitem.lookup (wpAny_getItem_heap (knd := ik C.prog C.w) (tupleKind_room_in1 (by have := K.units; omega)) hkey hm p1 (h.same S.H p2 _))

theorem slice_list {value slice : Expr} {l : List D} {lo hi st : Option Int} {l' : List D} {v vl vu vs' : Value} {sl : Addr} {Q : Value → Shared → Prop} (S : St C X sc env φ s.heap) (rl : Rp X s.heap (.lst l) v) (hs : s.heap.IsSliceOf sl vl vu vs')
    (pl : IsPart vl lo) (pu : IsPart vu hi) (ps : IsPart vs' st) (h0 : st ≠ some 0) (hz : l.length ≤ 1000)
    (hp : ∀ vs : Array Value, RpL X s.heap l vs.toList → RpL X s.heap l' (slicePick vs lo hi st).toList) (h : Ret C X s (.lst l') Q) :
    wpAny (model C.prog C.w) A (subscriptTail value slice v (.ref sl)) Q E s := by
  obtain ⟨a, vs, n, rfl, _, g, r⟩ := rl.lst_inv
  have hL : s.heap.IsList a vs := ⟨_, g, rfl, n, rfl⟩
  have hl := r.length
  simp only [Array.length_toList] at hl
  exact subTail_ok hL.typeIs slot_list_getitem.lookup (wpAny_getItem_list_slice hL hs pl pu ps h0 (h.newL S.H S.x (hp vs r) s.toks) (by rw [sizeLine_eq]; omega))

theorem starred_none {f : Expr → Option D} {pos : Pos} : ∀ {es : List Expr} {l : List D}, evs f es = some l → (backTo pos (starEach es env)).any (·.1) = false
  | [], _, _ => rfl
  | e :: es, l, h => by
    obtain ⟨e1, d, l', _, e2, _⟩ := evs_cons (env := env) h
    rw [e1]
    show (false || (backTo pos (starEach es env)).any (·.1)) = false
    rw [starred_none e2]; rfl

theorem gval_load (CO : CfgOk C) (S : St C X sc env φ s.heap) {f : Str} {fv : Value} {Q : Value → Shared → Prop} (g : Gval C f fv) (h : Q fv s) : wpAny (model C.prog C.w) A (loadGlobal env f) Q E s := by
  have hg : s.heap.Ns env.globals C.mg := by rw [S.e.gl]; exact CO.g.keeps S.H.base
  have hb : s.heap.Ns env.builtins C.mb := by rw [S.e.bl]; exact CO.b.keeps S.H.base
  rcases g with g | ⟨g, g'⟩
  · exact loadGlobal_global hg g h
  · exact loadGlobal_builtin hg g hb g' h

theorem call_ok {G : Fn} {f : Str} {args : List Expr} {p pos : Pos} {l : List D} {d : D} {ff : Expr → Option D} {Q : Value → Shared → Prop} (CO : CfgOk C) (GO : GOk C k G) (K : Aok k A) (F : FOk C k X sc env φ ff) (S : St C X sc env φ s.heap)
    (hsc : sc.lookup f = some .globalImplicit) (ea : evs ff args = some l) (eg : G f l = some d) (h : Ret C X s d Q) : wpAny (model C.prog C.w) A (eval (.Call (.Name f p) args [] pos) env) Q E s := by
  obtain ⟨hdb, fv, gv, kp, co⟩ := GO f l d eg
  show wpAny (model C.prog C.w) A (do callWith pos (← eval (.Name f p) env) [] (backTo pos (starEach args env)) []) Q E s
  have hk : env.kindOf f = some .globalImplicit := by
    rcases S.e.kd f with q | ⟨q, _⟩
    · rw [q]; exact hsc
    · rw [hsc] at q; cases q
  refine wpAny_bind (Name_function_global S.e.fn hk (gval_load CO S gv ?_) hdb)
  refine callWith_of (P := HOk C) (by rw [starred_none ea]; rfl) kp ?_
  have body : wpAny (model C.prog C.w) A (spliced (backTo pos (starEach args env))) (fun vs s₁ => HOk C s₁.heap ∧ wpAny (model C.prog C.w) A (call fv ([] ++ vs) []) Q E s₁) E s := by
    refine evs_ok F K args l ea s _ E S fun vs h' tk H k1 r => ⟨H, ?_⟩
    exact co A X vs _ Q E K H (S.x.kp H k1) r fun v h'' tk'' H' k2 r2 => h v h'' tk'' H' (k1.trans k2) r2
  cases args with
  | nil =>
    obtain rfl := evs_nil ea
    exact evalArgs_nil3 ⟨S.H, co A X [] s Q E K S.H S.x (by simp only [RpL]) h⟩
  | cons e es =>
    have hs : starEach (e :: es) env = (false, eval e env) :: starEach es env := (evs_cons ea).1
    rw [hs] at body ⊢
    exact evalArgs_plain body


theorem methEq {y name : Str} {py apos pos : Pos} {env : Env} (hq : (apos.endLine == pos.line) = true) : eval (.Call (.Attribute (.Name y py) name apos) [] [] pos) env = (do
      let ov ← eval (.Name y py) env
      standAt apos.atName
      let (f, first) ← holding [ov] (getMethod ov name (do return (← importBound (.Name y py) env).getD true))
      callWith pos f first (backTo pos (starEach [] env)) []) := by
  rw [arm_eval_Call]
  have hf : methodCallForm (([] : List Expr).length + ([] : List Keyword).length) (backTo pos (starEach [] env)) (backToKw pos (keywordEach [] env)) = true := rfl
  simp only [methodCall, hf, methodCallPos, calleeOf, hq, Bool.or_true, if_true, pure_bind]
  rfl

theorem Compare_ok {left : Expr} {ops : List CmpOp} {cs : List Expr} {pos : Pos} {Q : Value → Shared → Prop} (hm : lastMarks ops cs = false)
    (h : wpAny (model C.prog C.w) A (eval left env) (fun a s₁ => wpAny (model C.prog C.w) A (compareChain pos a ops (evalEach cs env)) Q E s₁) E s) : wpAny (model C.prog C.w) A (eval (.Compare left ops cs pos) env) Q E s := by
  show wpAny (model C.prog C.w) A (do compareChain pos (← eval left env) ops (markedEach ops cs (evalEach cs env))) Q E s
  rw [markedEach_of_false _ _ _ hm]
  exact wpAny_bind h
theorem CompareT_ok {left : Expr} {ops : List CmpOp} {cs : List Expr} {pos : Pos} {whole : Sem Value} {Q : Bool → Shared → Prop} (hm : lastMarks ops cs = false)
    (h : wpAny (model C.prog C.w) A (eval left env) (fun a s₁ => wpAny (model C.prog C.w) A (testChain pos a ops (evalEach cs env)) Q E s₁) E s) : wpAny (model C.prog C.w) A (isTrue (.Compare left ops cs pos) env whole) Q E s := by
  show wpAny (model C.prog C.w) A (do testChain pos (← eval left env) ops (markedEach ops cs (evalEach cs env))) Q E s
  rw [markedEach_of_false _ _ _ hm]
  exact wpAny_bind h

theorem ev_set {G : Fn} {n : Nat} {e : Expr} {d : D} (h : ev G n sc φ e = some d) : ∀ env x, foldedSetIterable e env x = pure x := fun env x => by
  cases e <;> first
    | rfl
    | (cases n <;> exact no' h)

/-- compFinish: the comprehension's value, its frame let go -/
theorem ListComp_ok {elt : Expr} {g : Comprehension} {gs : List Comprehension} {scope : Scope} {pos : Pos} {f : Expr → Option D} {f' : Ph → Expr → Option D} {c : D} {its l : List D} {Q : Value → Shared → Prop} (K : Aok k A) (S : St C X sc env φ s.heap)
    (F0 : FOk C k X sc env φ f) (hset0 : ∀ env x, foldedSetIterable g.iter env x = pure x)
    (F : ∀ X env φ, FOk C k X scope.names env φ (f' φ)) (T : ∀ X env φ, TOk C k X scope.names env φ (f' φ)) (hset : ∀ φ e d, f' φ e = some d → ∀ env x, foldedSetIterable e env x = pure x)
    (hsc : scOk sc scope.names = true) (htg : targetsOk scope.names [] (g :: gs) = true) (hkind : scope.kind = .function) (ec : f g.iter = some c) (ei : itemsD c = some its) (el : evComp f' elt (g :: gs) its (keepFree scope.names φ) = some l) (hz : l.length ≤ 1000)
    (h : Ret C X s (.lst l) Q) : wpAny (model C.prog C.w) A (eval (.ListComp elt (g :: gs) scope pos) env) Q E s := by
  have hg : g.is_async = 0 := by obtain ⟨tg, it, ifs, rfl, _⟩ := targetsOk_cons htg; rfl
  have hfa : firstAsync (g :: gs) = false := by
    obtain ⟨tg, it, ifs, rfl, _⟩ := targetsOk_cons htg; rfl
  have hfi : firstIter (g :: gs) env = eval g.iter env := by obtain ⟨tg, it, ifs, rfl, _⟩ := targetsOk_cons htg; rfl
  rw [eval_ListComp, hfa, hfi]
  refine wpAny_comprehension_free (use := none) rfl (fun x => hset0 env x) (closure_eq fun p hp hk => S.e.cl p.1 ((scOk_free hsc p hp hk).1)) hkind (scOk_local hsc) ?_
  refine F0 g.iter c ec A s _ E K S fun v h1 tk1 H1 k1 r1 => ?_
  refine compBlock_ok (RR := fun acc Cc => compPost (model C.prog C.w) A E none Q acc Cc) K (S.kp H1 k1) hsc htg hkind F T hset r1 ei el hz ?_
  intro Dl Cc h' tk m' H' k' r' n' f1 hne f2 _
  refine ⟨m', n', fun h'' hs'' => h (.ref Dl) h'' tk ?_ ?_ ?_⟩
  · exact H'.same hs'' ((S.kp H1 k1).H.baseNone f1) (Ns_nja n')
  · intro b o nb eb
    have e1 := k1 b o nb eb
    have e2 := k' b o nb e1
    exact hs''.extBut b o (by rintro rfl; rw [show (({ s with heap := h1, toks := tk1 } : Shared).heap.get? b) = h1.get? b from rfl, e1] at f1; cases f1) e2
  · exact (r'.kp (Y := fun b => b = Cc) (.same hs'' rfl) fun b q => .inr q).av fun b _ _ q => .inl q
end
end Mine
namespace Mine
open PySem PySem.Spec PySem.Calls PyProof.Rows PySem.W
set_option linter.unusedVariables false
set_option maxRecDepth 100000

/-- an item by its place or key -/
noncomputable def ixD (a b : D) : Option D := match a, b with
  | .lst l, .int k => idxD l k
  | .tup l, .int k => idxD l k
  | .dct ks vs, .tup [.int i, .int j] => dget ks vs (i, j)
  | _, _ => none
inductive IxI : D → D → D → Prop
  | lst (l : List D) (k : Int) (d : D) (e : idxD l k = some d) : IxI (.lst l) (.int k) d
  | tup (l : List D) (k : Int) (d : D) (e : idxD l k = some d) : IxI (.tup l) (.int k) d
  | dct (ks : List (Int × Int)) (vs : List D) (i j : Int) (d : D) (e : dget ks vs (i, j) = some d) : IxI (.dct ks vs) (.tup [.int i, .int j]) d
theorem ix_inv {a b d : D} (h : ixD a b = some d) : IxI a b d := by
  induction a using D.casesOn with
  | lst l => induction b using D.casesOn with
    | int k => exact .lst l k d h
    | _ => exact no' h
  | tup l => induction b using D.casesOn with
    | int k => exact .tup l k d h
    | _ => exact no' h
  | dct ks vs => induction b using D.casesOn with
    | tup m => induction m using List.casesOn with
      | nil => exact no' h
      | cons x m => induction x using D.casesOn with
        | int i => induction m using List.casesOn with
          | nil => exact no' h
          | cons y m => induction y using D.casesOn with
            | int j => induction m using List.casesOn with
              | nil => exact .dct ks vs i j d h
              | cons => exact no' h
            | _ => exact no' h
        | _ => exact no' h
    | _ => exact no' h
  | _ => exact no' h
noncomputable def upD (a b : D) : Option D := match a, b with
  | .lst l, .int k => if decide (0 ≤ k) && small k && decide (l.length ≤ 1000) then some (.lst (l.take k.toNat)) else none
  | _, _ => none
theorem up_inv {a b d : D} (h : upD a b = some d) : ∃ l k, a = .lst l ∧ b = .int k ∧ (if decide (0 ≤ k) && small k && decide (l.length ≤ 1000) then some (D.lst (l.take k.toNat)) else none) = some d := by
  induction a using D.casesOn with
  | lst l => induction b using D.casesOn with
    | int k => exact ⟨l, k, rfl, rfl, h⟩
    | _ => exact no' h
  | _ => exact no' h
noncomputable def rvD (a : D) : Option D := match a with
  | .lst l => if decide (l.length ≤ 1000) then some (.lst l.reverse) else none
  | _ => none
theorem rv_inv {a d : D} (h : rvD a = some d) : ∃ l, a = .lst l ∧ (if decide (l.length ≤ 1000) then some (D.lst l.reverse) else none) = some d := by
  induction a using D.casesOn with
  | lst l => exact ⟨l, rfl, h⟩
  | _ => exact no' h
theorem ev_ok {C : Cfg} {k : Nat} {G : Fn} (CO : CfgOk C) (GO : GOk C k G) : ∀ n, (∀ X sc env φ, FOk C k X sc env φ (ev G n sc φ)) ∧ (∀ X sc env φ, TOk C k X sc env φ (ev G n sc φ)) := by
  intro n
  induction n with
  | zero => exact ⟨fun X sc env φ e d h => no' h, fun X sc env φ e d b h => no' h⟩
  | succ n ih =>
    have hF : ∀ X sc env φ, FOk C k X sc env φ (ev G (n + 1) sc φ) := by
      intro X sc env φ e d h0 A s Q E K S h
      have F := ih.1 X sc env φ
      have T := ih.2 X sc env φ
      induction e using Expr.casesOn with
      | Constant c kk pos =>
        induction c using Const.casesOn with
        | none => exact Constant_none (h.same S.H (by obtain rfl : D.none = d := Option.some.inj h0; simp only [Rp]) s.toks)
        | bool b => exact Constant_bool (h.same S.H (by obtain rfl : D.bool b = d := Option.some.inj h0; simp only [Rp]) s.toks)
        | int i => exact wpAny_Constant_int (h.same S.H (by obtain rfl : D.int i = d := Option.some.inj h0; simp only [Rp]; exact ⟨_, rfl⟩) _)
        | _ => exact no' h0
      | Name x pos => exact Name_ok S (show φ.lookup x = some d from h0) h
      | BinOp l op r pos =>
        obtain ⟨a, h1, h0⟩ := Option.bind_eq_some_iff.mp (show ((ev G n sc φ l).bind fun a => (ev G n sc φ r).bind fun b => binD op a b) = some d from h0)
        obtain ⟨b, h2, h3⟩ := Option.bind_eq_some_iff.mp h0
        refine wpAny_BinOp (F l a h1 A s _ E K S fun va h' tk H k1 ra => F r b h2 A _ _ E K (S.kp H k1) fun vb h'' tk' H' k2 rb => ?_)
        exact bin_ok K H' ((S.kp H k1).x.kp H' k2) (ra.kp k2 S.x.tb) rb h3 fun v h3 tk3 H3 k3 r3 => h v h3 tk3 H3 ((k1.trans k2).trans k3) r3
      | UnaryOp op x pos =>
        induction op using UnaryOp.casesOn with
        | Not =>
          obtain ⟨a, h1, h0⟩ := Option.bind_eq_some_iff.mp (show ((ev G n sc φ x).bind fun a => (truthD a).map fun b => D.bool (!b)) = some d from h0)
          obtain ⟨b, h2, rfl⟩ := Option.map_eq_some_iff.mp h0
          refine UnaryOp_ (F x a h1 A s _ E K S fun v h' tk H k1 r => not_of (truth_ok (C := C) r h2 fun tk' => ?_))
          exact h _ _ _ H k1 (by simp only [Rp])
        | _ => exact no' h0
      | BoolOp op vs pos =>
        exact evBool_ok F K vs d h0 s Q E S h
      | IfExp t a b pos =>
        obtain ⟨c, h1, h0⟩ := Option.bind_eq_some_iff.mp (show ((ev G n sc φ t).bind fun c => (truthD c).bind fun k => if k then ev G n sc φ a else ev G n sc φ b) = some d from h0)
        obtain ⟨b1, h2, h3⟩ := Option.bind_eq_some_iff.mp h0
        refine IfExp_ (T t c b1 h1 h2 A s _ E K S fun h' tk H k1 => ?_)
        induction b1 using Bool.casesOn with
        | true => simp only [if_true] at h3 ⊢; exact F a d h3 A _ Q E K (S.kp H k1) fun v h'' tk' H' k2 r => h v h'' tk' H' (k1.trans k2) r
        | false => simp only [Bool.false_eq_true, if_false] at h3 ⊢; exact F b d h3 A _ Q E K (S.kp H k1) fun v h'' tk' H' k2 r => h v h'' tk' H' (k1.trans k2) r
      | Compare l ops cs pos =>
        replace h0 : (if lastMarks ops cs then none else (ev G n sc φ l).bind fun a => evCmp (ev G n sc φ) a ops cs) = some d := h0
        split at h0
        · cases h0
        · rename_i hm
          obtain ⟨a, h1, h2⟩ := Option.bind_eq_some_iff.mp h0
          refine Compare_ok (by simpa using hm) (F l a h1 A s _ E K S fun va h' tk H k1 ra => ?_)
          exact evCmp_ok F K ops cs a d va h2 _ Q E (S.kp H k1) ra fun v h'' tk' H' k2 r => h v h'' tk' H' (k1.trans k2) r
      | List es pos =>
        obtain ⟨l, h1, h2⟩ := Option.bind_eq_some_iff.mp (show ((evs (ev G n sc φ) es).bind fun l => if decide (l.length ≤ 1000) then some (.lst l) else none) = some d from h0)
        split at h2
        · rename_i hz
          cases h2
          refine List_ (evs_ok F K es l h1 s _ E S fun vs h' tk H k1 r => ?_)
          have hl := r.length
          simp only [decide_eq_true_eq] at hz
          refine wpAny_newObj_type (Ret.newL (s := { s with heap := h', toks := tk }) (vs := vs.toArray) (fun v h'' tk' H' k2 r2 => h v h'' tk' H' (k1.trans k2) r2) H (S.x.kp H k1) (by simpa using r) tk) ?_
          show vs.toArray.size ≤ sizeLine
          rw [sizeLine_eq, List.size_toArray]; omega
        · cases h2
      | Tuple es kk pos =>
        obtain ⟨l, h1, h2⟩ := Option.bind_eq_some_iff.mp (show ((evs (ev G n sc φ) es).bind fun l => if decide (l.length ≤ 1000) then some (.tup l) else none) = some d from h0)
        split at h2
        · rename_i hz
          cases h2
          refine Tuple_ (evs_ok F K es l h1 s _ E S fun vs h' tk H k1 r => ?_)
          have hl := r.length
          simp only [decide_eq_true_eq] at hz
          refine wpAny_newObj_type (Ret.newT (s := { s with heap := h', toks := tk }) (vs := vs.toArray) (fun v h'' tk' H' k2 r2 => h v h'' tk' H' (k1.trans k2) r2) H (S.x.kp H k1) (by simpa using r) tk) ?_
          show vs.toArray.size ≤ sizeLine
          rw [sizeLine_eq, List.size_toArray]; omega
        · cases h2
      | Call f args kws pos =>
        induction f using Expr.casesOn with
        | Name f p => induction kws using List.casesOn with
          | nil =>
            replace h0 : (if sc.lookup f == some .globalImplicit then (evs (ev G n sc φ) args).bind fun l => G f l else none) = some d := h0
            split at h0
            · rename_i hsc
              simp only [Option.bind_eq_some_iff] at h0
              obtain ⟨l, h1, h2⟩ := h0
              exact call_ok CO GO K F S (by simpa using hsc) h1 h2 h
            · cases h0
          | cons => exact no' h0
        | Attribute v m apos => induction v using Expr.casesOn with
          | Name y py => induction args using List.casesOn with
            | nil => induction kws using List.casesOn with
              | nil =>
                replace h0 : (if m == ("bit_length" : Str) && apos.endLine == pos.line then (ev G n sc φ (.Name y py)).bind fun a => match a with
                    | .int i => some (.int (Builtin.Int.intBits i))
                    | _ => none
                  else if m == ("items" : Str) && apos.endLine == pos.line then (ev G n sc φ (.Name y py)).bind fun a => match a with
                    | .dct ks vs => some (.itm ks vs)
                    | _ => none
                  else none) = some d := h0
                split at h0
                · rename_i hm
                  simp only [Bool.and_eq_true] at hm
                  simp only [Option.bind_eq_some_iff] at h0
                  obtain ⟨a, h1, h2⟩ := h0
                  obtain ⟨i, rfl, rfl⟩ : ∃ i, a = .int i ∧ d = .int (Builtin.Int.intBits i) := by
                    induction a using D.casesOn with
                    | int i => exact ⟨i, rfl, (Option.some.inj h2).symm⟩
                    | _ => exact no' h2
                  have hm' : m = ("bit_length" : Str) := by simpa using hm.1
                  subst hm'
                  refine MethodCall_ (he := methEq hm.2) (F _ _ h1 A s _ E K S fun va h' tk H k1 ra => ?_)
                  obtain ⟨t, rfl⟩ := ra.int_inv
                  exact getMethod_int_bit_length (callWith_method0 (call_int_bit_length (h (.int _ _) h' _ H k1 (by simp only [Rp]; exact ⟨_, rfl⟩))))
                · split at h0
                  · rename_i hm
                    simp only [Bool.and_eq_true] at hm
                    simp only [Option.bind_eq_some_iff] at h0
                    obtain ⟨a, h1, h2⟩ := h0
                    obtain ⟨ks, vs, rfl, rfl⟩ : ∃ ks vs, a = .dct ks vs ∧ d = .itm ks vs := by
                      induction a using D.casesOn with
                      | dct ks vs => exact ⟨ks, vs, rfl, (Option.some.inj h2).symm⟩
                      | _ => exact no' h2
                    have hm' : m = ("items" : Str) := by simpa using hm.1
                    subst hm'
                    refine MethodCall_ (he := methEq hm.2) (F _ _ h1 A s _ E K S fun va h' tk H k1 ra => ?_)
                    obtain ⟨a, es, ep, rfl, hx, hs, g, nd, y, r⟩ := ra.dct_inv
                    refine getMethod_builtin (s := { s with heap := h', toks := tk }) (dctO_typeIs (s := { s with heap := h', toks := tk }) g) PySem.F.plainAttrs_dict PySem.F.slot_dict_items PySem.F.type_dict_items (fun b e => by cases e; exact ⟨_, g, rfl⟩) ?_
                    refine callWith_method0 (dctItems_call (s := { s with heap := h', toks := tk }) hs g (h _ _ tk (H.push _) (k1.trans (.push _)) ?_))
                    have S1 := S.kp H k1
                    simp only [Rp]
                    exact ⟨_, a, es, ep, rfl, S1.x.fresh, Heap.get?_push_size _ rfl, hx, hs, Heap.get?_push_of_some _ g, nd, y.kp (Y := X) (.push _) (fun _ q => q), r.kp (Y := X) (.push _) fun _ q => q⟩
                  · cases h0
              | cons => exact no' h0
            | cons => exact no' h0
          | _ => exact no' h0
        | _ => exact no' h0
      | ListComp elt gens scope pos =>
        induction gens using List.casesOn with
        | nil => exact no' h0
        | cons g gs =>
          replace h0 : (if scOk sc scope.names && targetsOk scope.names [] (g :: gs) && scope.kind == .function then
            (ev G n sc φ g.iter).bind fun c => (itemsD c).bind fun its => (evComp (ev G n scope.names) elt (g :: gs) its (keepFree scope.names φ)).bind fun l =>
              if decide (l.length ≤ 1000) then some (.lst l) else none
            else none) = some d := h0
          split at h0
          · rename_i hc
            simp only [Bool.and_eq_true, beq_iff_eq] at hc
            simp only [Option.bind_eq_some_iff] at h0
            obtain ⟨c, h1, its, h2, l, h3, h4⟩ := h0
            split at h4
            · rename_i hz
              cases h4
              exact ListComp_ok K S F (ev_set h1) (fun X env φ => ih.1 X _ env φ) (fun X env φ => ih.2 X _ env φ) (fun φ e d he => ev_set he) hc.1.1 hc.1.2 hc.2 h1 h2 h3 (by simpa using hz) h
            · cases h4
          · cases h0
      | Subscript v i pos =>
        have gen : ∀ {a b : D}, ev G n sc φ v = some a → ev G n sc φ i = some b → ixD a b = some d → wpAny (model C.prog C.w) A (eval (.Subscript v i pos) env) Q E s := by
          intro a b h1 h2 h3
          refine Subscript_ (F v a h1 A s _ E K S fun va h' tk H k1 ra => F i b h2 A _ _ E K (S.kp H k1) fun vb h'' tk' H' k2 rb => ?_)
          have S2 := (S.kp H k1).kp H' k2
          cases ix_inv h3 with
          | lst l k d e => exact idx_list (s := { s with heap := h'', toks := tk' }) S2 (ra.kp k2 S.x.tb) rb e fun v h3 tk3 H3 k3 r3 => h v h3 tk3 H3 ((k1.trans k2).trans k3) r3
          | tup l k d e => exact idx_tuple (s := { s with heap := h'', toks := tk' }) S2 (ra.kp k2 S.x.tb) rb e fun v h3 tk3 H3 k3 r3 => h v h3 tk3 H3 ((k1.trans k2).trans k3) r3
          | dct ks vs i j d e => exact idx_dict (s := { s with heap := h'', toks := tk' }) K S2 (ra.kp k2 S.x.tb) rb e fun v h3 tk3 H3 k3 r3 => h v h3 tk3 H3 ((k1.trans k2).trans k3) r3
        cases i with
        | Slice lo up st p =>
          induction lo using Option.casesOn with
          | some lo => exact no' h0
          | none => induction up using Option.casesOn with
            | some u => induction st using Option.casesOn with
              | some st => exact no' h0
              | none =>
                obtain ⟨a, h1, h0⟩ := Option.bind_eq_some_iff.mp (show ((ev G n sc φ v).bind fun a => (ev G n sc φ u).bind fun b => upD a b) = some d from h0)
                obtain ⟨b, h2, h3⟩ := Option.bind_eq_some_iff.mp h0
                obtain ⟨l, kk, rfl, rfl, h3⟩ := up_inv h3
                obtain ⟨hc, rfl⟩ := if' h3
                simp only [Bool.and_eq_true, decide_eq_true_eq] at hc
                refine Subscript_ (F v _ h1 A s _ E K S fun va h' tk H k1 ra => wpAny_Slice (wpAny_pure (F u _ h2 A _ _ E K (S.kp H k1) fun vb h'' tk' H' k2 rb => wpAny_pure ?_)))
                obtain ⟨t, rfl⟩ := rb.int_inv
                have S2 := (S.kp H k1).kp H' k2
                have S3 := S2.kp (H'.push { cls := .type "slice", data := .fields #[.none, .int kk t, .none] }) (.push _)
                refine slice_list (s := { s with heap := h''.push { cls := .type "slice", data := .fields #[.none, .int kk t, .none] }, toks := tk' }) (lo := none) (hi := some kk) (st := none) S3 ((ra.kp k2 S.x.tb).kp (.push _) S.x.tb) (Heap.IsSliceOf.new ..) .none (.int _ _) .none (by simp) hc.2 (fun vs r => ?_)
                  fun v h3 tk3 H3 k3 r3 => h v h3 tk3 H3 ((k1.trans k2).trans ((Kp.push _).trans k3)) r3
                have e := slicePick_upto' vs kk.toNat
                rw [Int.toNat_of_nonneg hc.1.1] at e
                rw [e]
                simpa using r.take kk.toNat
            | none => induction st using Option.casesOn with
              | none => exact no' h0
              | some e =>
                obtain ⟨q1, q2, q3, rfl⟩ : ∃ q1 q2 q3, e = .UnaryOp .USub (.Constant (.int 1) q1 q2) q3 := by
                  induction e using Expr.casesOn with
                  | UnaryOp op x q3 => induction op using UnaryOp.casesOn with
                    | USub => induction x using Expr.casesOn with
                      | Constant c q1 q2 => induction c using Const.casesOn with
                        | int i =>
                          obtain rfl : i = 1 := by
                            induction i using Int.casesOn with
                            | ofNat m => induction m using Nat.casesOn with
                              | zero => exact no' h0
                              | succ m => induction m using Nat.casesOn with
                                | zero => rfl
                                | succ m => exact no' h0
                            | negSucc m => exact no' h0
                          exact ⟨q1, q2, q3, rfl⟩
                        | _ => exact no' h0
                      | _ => exact no' h0
                    | _ => exact no' h0
                  | _ => exact no' h0
                obtain ⟨a, h1, h3⟩ := Option.bind_eq_some_iff.mp (show ((ev G n sc φ v).bind rvD) = some d from h0)
                obtain ⟨l, rfl, h3⟩ := rv_inv h3
                obtain ⟨hc, rfl⟩ := if' h3
                simp only [decide_eq_true_eq] at hc
                refine Subscript_ (F v _ h1 A s _ E K S fun va h' tk H k1 ra => wpAny_Slice (wpAny_pure (wpAny_pure ?_)))
                refine UnaryOp_ (wpAny_Constant_int (P.neg_int ?_))
                have S1 := S.kp H k1
                have S3 := S1.kp (H.push { cls := .type "slice", data := .fields #[.none, .none, .int (-1) (tk + 1)] }) (.push _)
                refine slice_list (s := { s with heap := h'.push { cls := .type "slice", data := .fields #[.none, .none, .int (-1) (tk + 1)] }, toks := tk + 1 + 1 }) (lo := none) (hi := none) (st := some (-1)) S3 (ra.kp (.push _) S.x.tb) (Heap.IsSliceOf.new ..) .none .none (.int _ _) (by simp) hc (fun vs r => ?_)
                  fun v h3 tk3 H3 k3 r3 => h v h3 tk3 H3 (k1.trans ((Kp.push _).trans k3)) r3
                rw [krv_pick]
                simpa using r.reverse
        | _ =>
          obtain ⟨a, h1, h0⟩ := Option.bind_eq_some_iff.mp (show ((ev G n sc φ v).bind fun a => (ev G n sc φ _).bind fun b => ixD a b) = some d from h0)
          obtain ⟨b, h2, h3⟩ := Option.bind_eq_some_iff.mp h0
          exact gen h1 h2 h3
      | _ => exact no' h0
    refine ⟨hF, ?_⟩
    intro X sc env φ e d b h0 hb A s Q E K S h
    have F := ih.1 X sc env φ
    have T := ih.2 X sc env φ
    have plain : (∀ whole, isTrue e env whole = (do let v ← whole; standAt e.pos; holding [v] (truthy v))) → wpAny (model C.prog C.w) A (isTrue e env (eval e env)) Q E s := fun he =>
      isTrue_plain (hF X sc env φ e d h0 A s _ E K S fun v h' tk H k1 r => truth_ok (C := C) r hb fun tk' => h _ _ H k1) (he _)
    induction e using Expr.casesOn with
    | UnaryOp op x pos =>
      induction op using UnaryOp.casesOn with
      | Not =>
        obtain ⟨a, h1, h0⟩ := Option.bind_eq_some_iff.mp (show ((ev G n sc φ x).bind fun a => (truthD a).map fun b => D.bool (!b)) = some d from h0)
        obtain ⟨b1, h2, rfl⟩ := Option.map_eq_some_iff.mp h0
        obtain rfl : (!b1) = b := Option.some.inj hb
        exact isTrue_not (T x a b1 h1 h2 A s _ E K S fun h' tk H k1 => h _ _ H k1)
      | _ => exact no' h0
    | BoolOp op vs pos =>
      exact boolTrue_ok T K vs d b h0 hb s Q E S h
    | IfExp t x y pos =>
      obtain ⟨c, h1, h0⟩ := Option.bind_eq_some_iff.mp (show ((ev G n sc φ t).bind fun c => (truthD c).bind fun k => if k then ev G n sc φ x else ev G n sc φ y) = some d from h0)
      obtain ⟨b1, h2, h3⟩ := Option.bind_eq_some_iff.mp h0
      refine isTrue_IfExp (T t c b1 h1 h2 A s _ E K S fun h' tk H k1 => ?_)
      induction b1 using Bool.casesOn with
      | true => simp only [if_true] at h3 ⊢; exact T x d b h3 hb A _ Q E K (S.kp H k1) fun h'' tk' H' k2 => h h'' tk' H' (k1.trans k2)
      | false => simp only [Bool.false_eq_true, if_false] at h3 ⊢; exact T y d b h3 hb A _ Q E K (S.kp H k1) fun h'' tk' H' k2 => h h'' tk' H' (k1.trans k2)
    | Compare l ops cs pos =>
      replace h0 : (if lastMarks ops cs then none else (ev G n sc φ l).bind fun a => evCmp (ev G n sc φ) a ops cs) = some d := h0
      split at h0
      · cases h0
      · rename_i hm
        obtain ⟨a, h1, h2⟩ := Option.bind_eq_some_iff.mp h0
        refine CompareT_ok (by simpa using hm) (F l a h1 A s _ E K S fun va h' tk H k1 ra => ?_)
        exact cmpTrue_ok F K ops cs a d b va h2 hb _ Q E (S.kp H k1) ra fun h'' tk' H' k2 => h h'' tk' H' (k1.trans k2)
    | _ => exact plain fun _ => rfl
end Mine
namespace Mine
open PySem PySem.Spec PySem.Calls PyProof.Rows PySem.W
set_option linter.unusedVariables false

noncomputable abbrev Out := Ph × Option D
noncomputable def kindSt (sc : Sc) (x : Str) : Bool := okName x && (sc.lookup x == some .local || sc.lookup x == some .cell)
noncomputable def kindLo (sc : Sc) (x : Str) : Bool := okName x && sc.lookup x == some .local

noncomputable def exB (f : Ph → Stmt → Option Out) : List Stmt → Ph → Option Out
  | [], φ => some (φ, none)
  | st :: r, φ => (f φ st).bind fun o => match o.2 with
    | none => exB f r o.1
    | some _ => some o

noncomputable def whileD (t : Ph → Option Bool) (b : Ph → Option Out) : Nat → Ph → Option Out
  | 0, _ => none
  | n + 1, φ => (t φ).bind fun c => if c then (b φ).bind fun o => (match o.2 with
    | none => whileD t b n o.1
    | some _ => some o) else some (φ, none)

noncomputable def forD (b : Ph → Option Out) (x : Str) : List D → Ph → Option Out
  | [], φ => some (φ, none)
  | d :: r, φ => (b (setA x d φ)).bind fun o => match o.2 with
    | none => forD b x r o.1
    | some _ => some o

/-- statements without writes but to names -/
noncomputable def exS (G : Fn) (N : Nat) : Nat → Sc → Ph → Stmt → Option Out
  | 0, _, _, _ => none
  | n + 1, sc, φ, st => match st with
    | .Assign [.Name x _] e _ => if kindSt sc x then (ev G N sc φ e).map fun d => (setA x d φ, none) else none
    | .Return (some e) _ => (ev G N sc φ e).map fun d => (φ, some d)
    | .If t b o _ => (ev G N sc φ t).bind fun d => (truthD d).bind fun c => exB (exS G N n sc) (if c then b else o) φ
    | .While t b [] _ => whileD (fun φ => (ev G N sc φ t).bind truthD) (exB (exS G N n sc) b) n φ
    | .For (.Name x _) it b [] _ => if kindLo sc x then (ev G N sc φ it).bind fun d => (itemsD d).bind fun its => forD (exB (exS G N n sc) b) x its φ else none
    | _ => none

theorem exS_Assign {G : Fn} {N n : Nat} {sc : Sc} {φ : Ph} {x : Str} {p pos : Pos} {e : Expr} {d : D} (hx : kindSt sc x = true) (he : ev G N sc φ e = some d) : exS G N (n + 1) sc φ (.Assign [.Name x p] e pos) = some (setA x d φ, none) := by
  show (if kindSt sc x then (ev G N sc φ e).map fun d => ((setA x d φ, none) : Out) else none) = _
  rw [if_pos hx, he]; rfl
noncomputable def Yf (C : Cfg) (sc : Sc) (env : Env) (b : Addr) : Prop := C.Tb b ∨ b = env.locals ∨ ∃ x, sc.lookup x = some .cell ∧ env.cells.lookup x = some b

structure FrOk (C : Cfg) (X : Addr → Prop) (sc : Sc) (env : Env) (φ : Ph) (h : Heap) : Prop where
  st : St C X sc env φ h
  ns : ∃ m, h.Ns env.locals m
  lB : C.B.get? env.locals = none
  cx : ∀ x, sc.lookup x = some .cell → ∃ c v, env.cells.lookup x = some c ∧ h.IsCell c v ∧ C.B.get? c = none
  ap : ∀ x y c, env.cells.lookup x = some c → env.cells.lookup y = some c → x = y

section
variable {C : Cfg} {k : Nat} {sc : Sc} {env : Env} {φ : Ph} {A : Around} {X : Addr → Prop} {E : Value → Shared → Prop} {s : Shared} {h h' : Heap}
theorem FrOk.kp (x : FrOk C X sc env φ h) (H : HOk C h') (k : Kp C.Tb h h') : FrOk C X sc env φ h' :=
  ⟨x.st.kp H k, let ⟨m, n⟩ := x.ns; ⟨m, Ns_kp n k x.st.e.nl⟩, x.lB, fun y hy => let ⟨c, v, a, ⟨o, ho, hd⟩, b⟩ := x.cx y hy; ⟨c, v, a, ⟨o, k _ _ (x.st.e.nc y c a) ho, hd⟩, b⟩, x.ap⟩
theorem Yf_X (x : FrOk C X sc env φ h) : ∀ b, Yf C sc env b → X b := fun b q => by
  rcases q with q | q | ⟨y, _, q⟩
  · exact x.st.x.tb b q
  · exact q ▸ x.st.e.xl
  · exact x.st.e.xc y b q
theorem Kp.yf (x : Kp C.Tb h h') : Kp (Yf C sc env) h h' := x.mono fun b q => .inl q

theorem FrOk.local {x : Str} {d : D} {v : Value} {m : Str → Option Value} (F : FrOk C X sc env φ h) (hx : sc.lookup x = some .local) (ok : okName x = true) (hn : h.Ns env.locals m)
    (hn' : h'.Ns env.locals (fun y => if y = x then some v else m y)) (hs : Heap.SameBut env.locals h h') (r : Rp X h d v) : FrOk C X sc env (setA x d φ) h' := by
  have k : Kp (fun b => b = env.locals) h h' := .same hs rfl
  have H := F.st.H.same hs F.lB (Ns_nja hn)
  refine ⟨⟨H, F.st.x.via H k fun b q _ => .inr (q ▸ Ns_ex hn'), F.st.e.store hx ok hn hn' hs r⟩, ⟨_, hn'⟩, F.lB, fun y hy => ?_, F.ap⟩
  obtain ⟨c, u, a, ⟨o, ho, hd⟩, b⟩ := F.cx y hy
  refine ⟨c, u, a, ⟨o, k _ _ (fun w => ?_) ho, hd⟩, b⟩
  obtain ⟨o', _, _, ho', hd', _⟩ := hn
  rw [show c = env.locals from w, ho'] at ho; cases ho
  rw [hd'] at hd; cases hd

theorem FrOk.cell {x : Str} {d : D} {v : Value} {c : Addr} {u : Option Value} (F : FrOk C X sc env φ h) (hx : sc.lookup x = some .cell) (ok : okName x = true) (hc : env.cells.lookup x = some c) (hi : h.IsCell c u)
    (hi' : h'.IsCell c (some v)) (hs : Heap.SameBut c h h') (r : Rp X h d v) : FrOk C X sc env (setA x d φ) h' := by
  have k : Kp (fun b => b = c) h h' := .same hs rfl
  have ss : ∀ b, (fun b => b = c) b → X b := fun b q => q ▸ F.st.e.xc x c hc
  obtain ⟨oc, hoc, hdc⟩ := hi
  obtain ⟨c0, u0, a0, _, b0⟩ := F.cx x hx
  rw [hc] at a0; cases a0
  have H := F.st.H.same hs b0 (nja_data hoc fun vs q => by rw [hdc] at q; cases q)
  have nl : env.locals ≠ c := fun q => by
    obtain ⟨m, o', _, _, ho', hd', _⟩ := F.ns
    rw [q, hoc] at ho'; cases ho'
    rw [hdc] at hd'; cases hd'
  simp only [okName, Bool.and_eq_true, Bool.not_eq_true'] at ok
  have e := F.st.e
  refine ⟨⟨H, F.st.x.via H k fun b q _ => .inr ?_, ⟨e.fn, e.gl, e.bl, e.nl, e.xl, e.nc, e.xc, e.kd, e.cl, fun y d' ey => ?_⟩⟩, let ⟨m, n⟩ := F.ns; ⟨m, Ns_kp n k nl⟩, F.lB, fun y hy => ?_, F.ap⟩
  · subst q; obtain ⟨o, ho, _⟩ := hi'; exact ⟨o, ho⟩
  · rw [lookup_setA] at ey
    by_cases q : y = x
    · subst q
      rw [if_pos rfl] at ey; cases ey
      exact ⟨ok.1, ok.2, v, r.kp k ss, .inr ⟨.inl hx, c, hc, hi'⟩⟩
    · rw [if_neg q] at ey
      obtain ⟨h1, h2, w, rw', z⟩ := e.ld y d' ey
      refine ⟨h1, h2, w, rw'.kp k ss, z.imp (fun ⟨a, m, hm, e'⟩ => ⟨a, m, Ns_kp hm k nl, e'⟩) fun ⟨a, c2, hc2, o2, ho2, hd2⟩ => ⟨a, c2, hc2, o2, k _ _ (fun w => ?_) ho2, hd2⟩⟩
      exact q (F.ap y x c (by rw [hc2, show c2 = c from w]) hc)
  · by_cases q : y = x
    · subst q; exact ⟨c, some v, hc, hi', b0⟩
    · obtain ⟨c2, u2, a2, ⟨o2, ho2, hd2⟩, b2⟩ := F.cx y hy
      exact ⟨c2, u2, a2, ⟨o2, k _ _ (fun w => q (F.ap y x c (by rw [a2, show c2 = c from w]) hc)) ho2, hd2⟩, b2⟩

/-- a name is bound -/
theorem store_ok {x : Str} {d : D} {v : Value} {Q : Unit → Shared → Prop} (F : FrOk C X sc env φ s.heap) (hx : kindSt sc x = true) (r : Rp X s.heap d v)
    (h : ∀ h' tk, FrOk C X sc env (setA x d φ) h' → Kp (fun b => b = env.locals ∨ ∃ x, sc.lookup x = some .cell ∧ env.cells.lookup x = some b) s.heap h' → Q () { s with heap := h', toks := tk }) : wpAny (model C.prog C.w) A (storeName env x v) Q E s := by
  simp only [kindSt, Bool.and_eq_true, Bool.or_eq_true, beq_iff_eq] at hx
  have kd : ∀ kk, sc.lookup x = some kk → kk ≠ .free → env.kindOf x = some kk := fun kk e hf => by
    rcases F.st.e.kd x with q | ⟨q, _⟩
    · rw [q]; exact e
    · rw [e] at q; cases q; exact absurd rfl hf
  rcases hx with ⟨ok, hx | hx⟩
  · obtain ⟨m, hn⟩ := F.ns
    refine wpAny_storeName_local (kd _ hx (by decide)) hn (fun h' hn' hs => ?_) (by rw [F.st.e.fn]; rfl)
    exact h h' _ (F.local hx ok hn hn' hs r) (.same hs (.inl rfl))
  · obtain ⟨c, u, a, hi, b⟩ := F.cx x hx
    refine wpAny_storeName_cell F.st.e.fn (kd _ hx (by decide)) a hi fun h' hi' hs => ?_
    exact h h' s.toks (F.cell hx ok a hi hi' hs r) (.same hs (.inr ⟨x, hx, a⟩))
theorem assign_ok {x : Str} {p : Pos} {d : D} {v : Value} {Q : Unit → Shared → Prop} (F : FrOk C X sc env φ s.heap) (hx : kindSt sc x = true) (r : Rp X s.heap d v)
    (h : ∀ h' tk, FrOk C X sc env (setA x d φ) h' → Kp (Yf C sc env) s.heap h' → Q () { s with heap := h', toks := tk }) : wpAny (model C.prog C.w) A (assign (.Name x p) env v) Q E s :=
  wpAny_assign_Name (store_ok F hx r fun h' tk F' k' => h h' tk F' (k'.mono fun b q => .inr q))

/-- what a statement leaves -/
noncomputable abbrev ExR (C : Cfg) (X : Addr → Prop) (sc : Sc) (env : Env) (o : Out) (s : Shared) (Q : Flow → Shared → Prop) : Prop :=
  ∀ h' tk, FrOk C X sc env o.1 h' → Kp (Yf C sc env) s.heap h' → match o.2 with
    | none => Q .next { s with heap := h', toks := tk }
    | some d => ∀ v, Rp X h' d v → Q (.ret v) { s with heap := h', toks := tk }
noncomputable def SOk (C : Cfg) (k : Nat) (sc : Sc) (f : Ph → Stmt → Option Out) : Prop :=
  ∀ φ st o, f φ st = some o → ∀ (A : Around) (X : Addr → Prop) (env : Env) (s : Shared) (Q : Flow → Shared → Prop) (E : Value → Shared → Prop), Aok k A → FrOk C X sc env φ s.heap → ExR C X sc env o s Q → wpAny (model C.prog C.w) A (exec st env) Q E s
noncomputable def BOk (C : Cfg) (k : Nat) (sc : Sc) (b : List Stmt) (f : Ph → Option Out) : Prop :=
  ∀ φ o, f φ = some o → ∀ (A : Around) (X : Addr → Prop) (env : Env) (s : Shared) (Q : Flow → Shared → Prop) (E : Value → Shared → Prop), Aok k A → FrOk C X sc env φ s.heap → ExR C X sc env o s Q → wpAny (model C.prog C.w) A (execs b env) Q E s

theorem exB_ok {f : Ph → Stmt → Option Out} (F : SOk C k sc f) : ∀ b, BOk C k sc b (exB f b)
  | [] => fun φ o e A X env s Q E K Z h => by
    simp only [exB, Option.some.injEq] at e; subst e
    exact wpAny_execs_nil (h s.heap s.toks Z .refl)
  | st :: r => fun φ o e A X env s Q E K Z h => by
    simp only [exB, Option.bind_eq_some_iff] at e
    obtain ⟨o1, h1, h2⟩ := e
    refine wpAny_execs_cons (F φ st o1 h1 A X env s _ E K Z fun h' tk Z' k' => ?_)
    obtain ⟨φ1, r1⟩ := o1
    cases r1 with
    | none => exact exB_ok F r φ1 o h2 A X env _ Q E K Z' fun h'' tk' Z'' k'' => h h'' tk' Z'' (k'.trans k'')
    | some d =>
      simp only [Option.some.injEq] at h2; subst h2
      exact fun v rv => h h' tk Z' k' v rv
end
end Mine
namespace Mine
open PySem PySem.Spec PySem.Calls PyProof.Rows PySem.W
set_option linter.unusedVariables false

section
variable {C : Cfg} {k : Nat} {sc : Sc} {env : Env} {φ : Ph} {A : Around} {X : Addr → Prop} {E : Value → Shared → Prop} {s : Shared} {h h' : Heap}

/-- one object apart is changed -/
theorem FrOk.other {a : Addr} (F : FrOk C X sc env φ h) (k : Kp (fun b => b = a) h h') (xa : X a) (hb : C.B.get? a = none) (hj : ¬ JA h a) (ex : ∃ o, h'.get? a = some o) (nl : a ≠ env.locals) (nc : ∀ x c, env.cells.lookup x = some c → c ≠ a) : FrOk C X sc env φ h' := by
  have H := F.st.H.step k fun b q => by subst q; exact ⟨hb, hj⟩
  refine ⟨⟨H, F.st.x.via H k fun b q _ => .inr (q ▸ ex), F.st.e.kpY k (fun b q => q ▸ xa) (Ne.symm nl) nc⟩, let ⟨m, n⟩ := F.ns; ⟨m, Ns_kp n k (Ne.symm nl)⟩, F.lB, fun y hy => ?_, F.ap⟩
  obtain ⟨c, v, b1, ⟨o, ho, hd⟩, b2⟩ := F.cx y hy
  exact ⟨c, v, b1, ⟨o, k _ _ (nc y c b1) ho, hd⟩, b2⟩
theorem FrOk.shr {X' : Addr → Prop} (F : FrOk C X' sc env φ h) (s : ∀ b, X b → X' b) (tb : ∀ b, C.Tb b → X b) (xl : X env.locals) (xc : ∀ y c, env.cells.lookup y = some c → X c) (bs : ∀ b o, C.B.get? b = some o → X b) : FrOk C X sc env φ h :=
  ⟨⟨F.st.H, ⟨tb, fun b q => F.st.x.ex b (s b q), bs⟩, F.st.e.shr s xl xc⟩, F.ns, F.lB, F.cx, F.ap⟩
/-- a new object joins X -/
theorem FrOk.grow {a : Addr} (F : FrOk C X sc env φ h) (fr : h.get? a = none) (k : ∀ b o, h.get? b = some o → h'.get? b = some o) (H : HOk C h') (ex : ∃ o, h'.get? a = some o) : FrOk C (fun b => X b ∨ b = a) sc env φ h' := by
  have av : ∀ b o, h.get? b = some o → (X b ∨ b = a) → X b := fun b o e q => q.elim id fun q => by subst q; rw [fr] at e; cases e
  refine ⟨⟨H, ⟨fun b q => .inl (F.st.x.tb b q), fun b q => ?_, fun b o q => .inl (F.st.x.bs b o q)⟩, (F.st.e.av av fun b q => .inl q).kpY (Y := fun _ => False) (fun b o _ e => k b o e) (fun _ q => q.elim) id fun _ _ _ q => q⟩, let ⟨m, n⟩ := F.ns; ⟨m, n.keeps k⟩, F.lB, fun y hy => ?_, F.ap⟩
  · rcases q with q | q
    · obtain ⟨o, e⟩ := F.st.x.ex b q; exact ⟨o, k _ _ e⟩
    · exact q ▸ ex
  · obtain ⟨c, v, b1, ⟨o, ho, hd⟩, b2⟩ := F.cx y hy
    exact ⟨c, v, b1, ⟨o, k _ _ ho, hd⟩, b2⟩
/-- an object that joined X is let go -/
theorem FrOk.letGo {a : Addr} (F : FrOk C (fun b => X b ∨ b = a) sc env φ h) (k : Kp (fun b => b = a) h h') (na : ∀ b, X b → b ≠ a) (tb : ∀ b, C.Tb b → X b) (xl : X env.locals) (xc : ∀ y c, env.cells.lookup y = some c → X c)
    (hb : C.B.get? a = none) (hj : ¬ JA h a) (bs : ∀ b o, C.B.get? b = some o → X b) : FrOk C X sc env φ h' := by
  refine ⟨⟨F.st.H.step k fun b q => by subst q; exact ⟨hb, hj⟩, ⟨tb, fun b q => ?_, bs⟩, (F.st.e.kpY k (fun b q => .inr q) (na _ xl) fun y c e => na _ (xc y c e)).shr (fun b q => .inl q) xl xc⟩, let ⟨m, n⟩ := F.ns; ⟨m, Ns_kp n k (na _ xl)⟩, F.lB, fun y hy => ?_, F.ap⟩
  · obtain ⟨o, e⟩ := F.st.x.ex b (.inl q); exact ⟨o, k _ _ (na b q) e⟩
  · obtain ⟨c, v, b1, ⟨o, ho, hd⟩, b2⟩ := F.cx y hy
    exact ⟨c, v, b1, ⟨o, k _ _ (na _ (xc y c b1)) ho, hd⟩, b2⟩
theorem FrOk.lt {a : Addr} (F : FrOk C X sc env φ h) (xa : X a) : a < h.objs.size := let ⟨o, e⟩ := F.st.x.ex a xa; Heap.lt_size e

theorem AssignComp_ok {elt : Expr} {g : Comprehension} {gs : List Comprehension} {scope : Scope} {pos p spos : Pos} {x : Str} {f : Expr → Option D} {f' : Ph → Expr → Option D} {c : D} {its l : List D} {Q : Flow → Shared → Prop} (K : Aok k A) (S : FrOk C X sc env φ s.heap)
    (hsw : swapsWith (.ListComp elt (g :: gs) scope pos) (some (.Name x p)) spos.line env = pure true) (hxk : kindSt sc x = true)
    (F0 : FOk C k X sc env φ f) (hset0 : ∀ env x, foldedSetIterable g.iter env x = pure x)
    (F : ∀ X env φ, FOk C k X scope.names env φ (f' φ)) (T : ∀ X env φ, TOk C k X scope.names env φ (f' φ)) (hset : ∀ φ e d, f' φ e = some d → ∀ env x, foldedSetIterable e env x = pure x)
    (hsc : scOk sc scope.names = true) (htg : targetsOk scope.names [] (g :: gs) = true) (hkind : scope.kind = .function) (ec : f g.iter = some c) (ei : itemsD c = some its) (el : evComp f' elt (g :: gs) its (keepFree scope.names φ) = some l) (hz : l.length ≤ 1000)
    (h : ExR C X sc env (setA x (.lst l) φ, none) s Q) : wpAny (model C.prog C.w) A (exec (.Assign [.Name x p] (.ListComp elt (g :: gs) scope pos) spos) env) Q E s := by
  have hfa : firstAsync (g :: gs) = false := by
    obtain ⟨tg, it, ifs, rfl, _⟩ := targetsOk_cons htg; rfl
  have hfi : firstIter (g :: gs) env = eval g.iter env := by obtain ⟨tg, it, ifs, rfl, _⟩ := targetsOk_cons htg; rfl
  rw [exec_Assign_Name_used _ _ _ _ hsw]
  refine wpAny_bind (wpAny_standAt (wpAny_bind ?_))
  show wpAny _ A (do let _ ← comprehension (.ListComp elt (g :: gs) scope pos) scope env _ (newList []) (firstAsync (g :: gs)) (firstIter (g :: gs) env) (some (assign (.Name x p) env))) _ _ s
  rw [hfa, hfi]
  refine wpAny_bind (wpAny_mono (wpAny_comprehension_free (use := some (assign (.Name x p) env)) (Q := fun _ s' => Q .next s') rfl (fun x => hset0 env x) (closure_eq fun p hp hk => S.st.e.cl p.1 ((scOk_free hsc p hp hk).1)) hkind (scOk_local hsc) ?_)
    (fun _ s' hq => wpAny_pure (wpAny_pure hq)) fun _ _ e => e)
  refine F0 g.iter c ec A s _ E K S.st fun v h1 tk1 H1 k1 r1 => ?_
  have S1 := S.kp H1 k1
  refine compBlock_ok (RR := fun acc Cc => compPost (model C.prog C.w) A E (some (assign (.Name x p) env)) (fun _ s' => Q .next s') acc Cc) K S1.st hsc htg hkind F T hset r1 ei el hz ?_
  intro Dl Cc h' tk m' H' k' r' n' f1 hne f2 hlt
  show wpAny _ A (assign (.Name x p) env (.ref Dl)) _ _ _
  have f1' : h1.get? Cc = none := f1
  have neX : ∀ b, X b → b ≠ Cc := fun b hb q => by obtain ⟨o, e⟩ := S1.st.x.ex b hb; rw [q, f1'] at e; cases e
  have S2 : FrOk C (fun b => X b ∨ b = Cc) sc env φ h' := by
    have av : ∀ b o, h1.get? b = some o → (X b ∨ b = Cc) → X b := fun b o e q => q.elim id fun q => by subst q; rw [f1'] at e; cases e
    have e1 := (S1.st.e.av av fun b q => .inl q).kp (fun b q => .inl (S1.st.x.tb b q)) k'
    have S2' := S1.kp H' k'
    refine ⟨⟨H', ⟨fun b q => .inl (S1.st.x.tb b q), fun b q => ?_, fun b o q => .inl (S1.st.x.bs b o q)⟩, e1⟩, S2'.ns, S2'.lB, S2'.cx, S2'.ap⟩
    rcases q with q | q
    · exact S2'.st.x.ex b q
    · exact q ▸ Ns_ex n'
  refine assign_ok (s := { s with heap := h', toks := tk }) S2 hxk r' fun h3 tk3 S3 k3 => ?_
  have nY : ¬ Yf C sc env Cc := by
    rintro (q | q | ⟨y, _, q⟩)
    · exact neX _ (S1.st.x.tb _ q) rfl
    · exact neX _ S1.st.e.xl q.symm
    · exact neX _ (S1.st.e.xc _ _ q) rfl
  refine ⟨m', Ns_kp n' k3 nY, fun h4 hs4 => ?_⟩
  have n3 := Ns_kp n' k3 nY
  have S4 := S3.letGo (.same hs4 rfl) neX S.st.x.tb S.st.e.xl S.st.e.xc (S1.st.H.baseNone f1') (Ns_nja n3) S.st.x.bs
  refine h h4 tk3 S4 fun b o nb eb => ?_
  have e1 := k1 b o (fun q => nb (.inl q)) eb
  have e2 := k' b o (fun q => nb (.inl q)) e1
  have e3 := k3 b o nb e2
  exact hs4.extBut b o (by rintro rfl; rw [f1'] at e1; cases e1) e3
end
end Mine
namespace Mine
open PySem PySem.Spec PySem.Calls PyProof.Rows PySem.W
set_option linter.unusedVariables false

theorem swaps_no {G : Fn} {n : Nat} {sc : Sc} {φ : Ph} {e : Expr} {d : D} {t : Option Expr} {ln : Nat} {env : Env} (h : ev G n sc φ e = some d) (hl : ∀ elt gens scope pos, e ≠ .ListComp elt gens scope pos) : swapsWith e t ln env = pure false := by
  cases e <;> first
    | rfl
    | exact absurd rfl (hl _ _ _ _)
    | (cases n <;> exact no' h)

section
variable {C : Cfg} {k : Nat} {G : Fn}

theorem exS_ok (CO : CfgOk C) (GO : GOk C k G) (N : Nat) : ∀ n sc, SOk C k sc (exS G N n sc) := by
  intro n
  induction n with
  | zero => intro sc φ st o h; exact no' h
  | succ n ih =>
    intro sc φ st o h0 A X env s Q E K Z h
    have EV := ev_ok CO GO N
    induction st using Stmt.casesOn with
    | Return e pos =>
      induction e using Option.casesOn with
      | none => exact no' h0
      | some e =>
        obtain ⟨d, h1, rfl⟩ := Option.map_eq_some_iff.mp (show (ev G N sc φ e).map (fun d => ((φ, some d) : Out)) = some o from h0)
        exact wpAny_Return_some (EV.1 X sc env φ e d h1 A s _ E K Z.st fun v h' tk H k1 r => h h' tk (Z.kp H k1) k1.yf v r)
    | «If» t b o' pos =>
      obtain ⟨d, h1, h0⟩ := Option.bind_eq_some_iff.mp (show ((ev G N sc φ t).bind fun d => (truthD d).bind fun c => exB (exS G N n sc) (if c then b else o') φ) = some o from h0)
      obtain ⟨c, h2, h3⟩ := Option.bind_eq_some_iff.mp h0
      refine wpAny_If (EV.2 X sc env φ t d c h1 h2 A s _ E K Z.st fun h' tk H k1 => ?_)
      induction c using Bool.casesOn with
      | true => simp only [if_true] at h3 ⊢; exact exB_ok (ih sc) b φ o h3 A X env _ Q E K (Z.kp H k1) fun h'' tk' Z' k2 => h h'' tk' Z' (k1.yf.trans k2)
      | false => simp only [Bool.false_eq_true, if_false] at h3 ⊢; exact exB_ok (ih sc) o' φ o h3 A X env _ Q E K (Z.kp H k1) fun h'' tk' Z' k2 => h h'' tk' Z' (k1.yf.trans k2)
    | Assign ts e pos =>
      have key : ∃ x p, ts = [.Name x p] := by
        induction ts using List.casesOn with
        | nil => exact no' h0
        | cons t r =>
          induction t using Expr.casesOn with
          | Name x p => induction r using List.casesOn with
            | cons => exact no' h0
            | nil => exact ⟨_, _, rfl⟩
          | _ => exact no' h0
      obtain ⟨x, p, rfl⟩ := key
      replace h0 : (if kindSt sc x then (ev G N sc φ e).map fun d => ((setA x d φ, none) : Out) else none) = some o := h0
      split at h0
      · rename_i hx
        simp only [Option.map_eq_some_iff] at h0
        obtain ⟨d, h1, rfl⟩ := h0
        have usual : swapsWith e (some (.Name x p)) pos.line env = pure false → wpAny (model C.prog C.w) A (exec (.Assign [.Name x p] e pos) env) Q E s := fun hs =>
          wpAny_Assign_Name (EV.1 X sc env φ e d h1 A s _ E K Z.st fun v h' tk H k1 r => store_ok (Z.kp H k1) hx r fun h'' tk' Z' k2 => h h'' tk' Z' (k1.yf.trans (k2.mono fun b q => .inr q))) hs
        by_cases hl : ∃ elt gens scope pos', e = .ListComp elt gens scope pos'
        · obtain ⟨elt, gens, scope, pos', rfl⟩ := hl
          induction N using Nat.casesOn with
          | zero => exact no' h1
          | succ N =>
            induction gens using List.casesOn with
            | nil => exact no' h1
            | cons g gs =>
              have EV' := ev_ok CO GO N
              have hb : ∃ b, swapsWith (.ListComp elt (g :: gs) scope pos') (some (.Name x p)) pos.line env = pure b := ⟨_, rfl⟩
              obtain ⟨b, hb⟩ := hb
              induction b using Bool.casesOn with
              | false => exact usual hb
              | true =>
                replace h1 : (if scOk sc scope.names && targetsOk scope.names [] (g :: gs) && scope.kind == .function then
                  (ev G N sc φ g.iter).bind fun c => (itemsD c).bind fun its => (evComp (ev G N scope.names) elt (g :: gs) its (keepFree scope.names φ)).bind fun l =>
                    if decide (l.length ≤ 1000) then some (.lst l) else none
                  else none) = some d := h1
                split at h1
                · rename_i hc
                  simp only [Bool.and_eq_true, beq_iff_eq] at hc
                  simp only [Option.bind_eq_some_iff] at h1
                  obtain ⟨c, h1, its, h2, l, h3, h4⟩ := h1
                  split at h4
                  · rename_i hz
                    cases h4
                    exact AssignComp_ok K Z hb hx (EV'.1 X sc env φ) (ev_set h1) (fun X env φ => EV'.1 X _ env φ) (fun X env φ => EV'.2 X _ env φ) (fun φ e d he => ev_set he) hc.1.1 hc.1.2 hc.2 h1 h2 h3 (by simpa using hz) h
                  · cases h4
                · cases h1
        · exact usual (swaps_no h1 fun a b c d q => hl ⟨a, b, c, d, q⟩)
      · cases h0
    | While t b oe pos =>
      induction oe using List.casesOn with
      | cons => exact no' h0
      | nil =>
        replace h0 : whileD (fun φ => (ev G N sc φ t).bind truthD) (exB (exS G N n sc) b) n φ = some o := h0
        refine wpAny_While ?_
        refine codeAny_whileLoop (fun m s' => ∃ φ' h' tk, s' = { s with heap := h', toks := tk } ∧ FrOk C X sc env φ' h' ∧ Kp (Yf C sc env) s.heap h' ∧ whileD (fun φ => (ev G N sc φ t).bind truthD) (exB (exS G N n sc) b) m φ' = some o) ?_ n ⟨φ, s.heap, s.toks, rfl, Z, .refl, h0⟩
        rintro m s' ⟨φ', h', tk, rfl, Z', k', e⟩
        induction m using Nat.casesOn with
        | zero => simp [whileD] at e
        | succ m =>
          simp only [whileD, Option.bind_eq_some_iff] at e
          obtain ⟨c, ⟨d, h1, h2⟩, h3⟩ := e
          refine EV.2 X sc env φ' t d c h1 h2 A _ _ _ K Z'.st fun h'' tk' H k1 => ?_
          induction c using Bool.casesOn with
          | false =>
            simp only [Bool.false_eq_true, if_false, Option.some.injEq] at h3 ⊢; subst h3
            exact wpAny_execs_nil (h h'' tk' (Z'.kp H k1) (k'.trans k1.yf))
          | true =>
            simp only [if_true, Option.bind_eq_some_iff] at h3 ⊢
            obtain ⟨⟨φ1, r1⟩, h4, h5⟩ := h3
            refine exB_ok (ih sc) b φ' _ h4 A X env _ _ _ K (Z'.kp H k1) fun h3 tk3 Z3 k3 => ?_
            induction r1 using Option.casesOn with
            | none => exact ⟨m, Nat.lt_succ_self _, φ1, h3, tk3, rfl, Z3, (k'.trans k1.yf).trans k3, h5⟩
            | some d =>
              simp only [Option.some.injEq] at h5; subst h5
              exact fun v rv => h h3 tk3 Z3 ((k'.trans k1.yf).trans k3) v rv
    | For tg it b oe pos =>
      have key : ∃ x p, tg = .Name x p := by
        induction tg using Expr.casesOn with
        | Name x p => exact ⟨_, _, rfl⟩
        | _ => exact no' h0
      obtain ⟨x, p, rfl⟩ := key
      induction oe using List.casesOn with
      | cons => exact no' h0
      | nil =>
        replace h0 : (if kindLo sc x then (ev G N sc φ it).bind fun d => (itemsD d).bind fun its => forD (exB (exS G N n sc) b) x its φ else none) = some o := h0
        split at h0
        · rename_i hx
          simp only [Option.bind_eq_some_iff] at h0
          obtain ⟨d, h1, its, h2, h3⟩ := h0
          have hx' : kindSt sc x = true := by
            simp only [kindLo, Bool.and_eq_true] at hx
            simp only [kindSt, Bool.and_eq_true, Bool.or_eq_true]; exact ⟨hx.1, .inl hx.2⟩
          refine wpAny_For (EV.1 X sc env φ it d h1 A s _ E K Z.st fun v h1 tk1 H1 k1 r1 => ?_) (fun x => ev_set h1 env x)
          have Z1 := Z.kp H1 k1
          refine iter_ok (C := C) Z1.st.x r1 h2 fun ob _ hit => ?_
          have fr := get_size h1
          dsimp only at hit ⊢
          generalize hN : h1.objs.size = I at *
          have neX : ∀ b, X b → b ≠ I := fun b hb q => by obtain ⟨o, e⟩ := Z1.st.x.ex b hb; rw [q, fr] at e; cases e
          have itEx : ∀ {h i}, ItAt (fun b => X b ∨ b = I) h I its i → ∃ o, h.get? I = some o := fun q => q.ex
          have Z2 : FrOk C (fun b => X b ∨ b = I) sc env φ (h1.push ob) := Z1.grow fr (fun b o e => Heap.get?_push_of_some _ e) (H1.push ob) (itEx hit)
          have nYI : ¬ Yf C sc env I := by
            rintro (q | q | ⟨y, _, q⟩)
            · exact neX _ (Z1.st.x.tb _ q) rfl
            · exact neX _ Z1.st.e.xl q.symm
            · exact neX _ (Z1.st.e.xc _ _ q) rfl
          have IB := Z1.st.H.baseNone fr
          have back : ∀ {φ h h'}, FrOk C (fun b => X b ∨ b = I) sc env φ h → (∃ i, ItAt (fun b => X b ∨ b = I) h I its i) → Kp (fun b => b = I) h h' → FrOk C X sc env φ h' := fun F ⟨i, q⟩ kk =>
            F.letGo kk neX Z.st.x.tb Z.st.e.xl Z.st.e.xc IB q.nja Z.st.x.bs
          refine codeAny_forLoop (fun m s' => ∃ i rest φ' h' tk, s' = { s with heap := h', toks := tk } ∧ FrOk C (fun b => X b ∨ b = I) sc env φ' h' ∧ ItAt (fun b => X b ∨ b = I) h' I its i ∧ (∀ j, its[i + j]? = rest[j]?) ∧ i + rest.length = its.length ∧
            Kp (fun b => Yf C sc env b ∨ b = I) s.heap h' ∧ forD (exB (exS G N n sc) b) x rest φ' = some o ∧ m = rest.length) ?_ its.length
            ⟨0, its, φ, h1.push ob, tk1, rfl, Z2, hit, fun j => by rw [Nat.zero_add], Nat.zero_add _, (k1.yf.mono fun b q => .inl q).trans (.push _), h3, rfl⟩
          rintro m s' ⟨i, rest, φ', h', tk, rfl, Z', it', hits, hlen, k', ef, rfl⟩
          induction rest using List.casesOn with
          | nil =>
            simp only [forD, Option.some.injEq] at ef; subst ef
            refine it'.done (C := C) K.handled (by simpa using hlen) fun h'' kk => wpAny_execs_nil ?_
            refine h h'' tk (back Z' ⟨i, it'⟩ kk) fun b o nb eb => ?_
            have bI : b ≠ I := by rintro rfl; have := k1 _ _ (fun q => nb (.inl q)) eb; rw [fr] at this; cases this
            exact kk b o bI (k' b o (fun q => q.elim nb bI) eb)
          | cons d' rest =>
            simp only [forD, Option.bind_eq_some_iff] at ef
            obtain ⟨⟨φ1, r1'⟩, h4, h5⟩ := ef
            refine it'.item (C := C) Z'.st.x (.inr rfl) (by have := hits 0; simpa using this) fun v h2 tk2 r2 it2 k2 => ?_
            have Z3 : FrOk C (fun b => X b ∨ b = I) sc env φ' h2 := Z'.other k2 (.inr rfl) IB it'.nja (itEx it2) (Ne.symm (neX _ Z1.st.e.xl)) fun y c hc => neX _ (Z1.st.e.xc y c hc)
            refine assign_ok (s := { s with heap := h2, toks := tk2 }) Z3 hx' r2 fun h3 tk3 Z4 k3 => ?_
            have it3 := it2.kp k3 (Yf_X Z3) nYI
            have k03 : Kp (fun b => Yf C sc env b ∨ b = I) s.heap h3 := (k'.trans (k2.mono fun b q => .inr q)).trans (k3.mono fun b q => .inl q)
            refine exB_ok (ih sc) b _ _ h4 A _ env _ _ _ K Z4 fun h5' tk5 Z5 k5 => ?_
            have it5 := it3.kp k5 (Yf_X Z4) nYI
            have k05 := k03.trans (k5.mono fun b (q : Yf C sc env b) => (.inl q : Yf C sc env b ∨ b = I))
            cases r1' with
            | none =>
              refine ⟨rest.length, Nat.lt_succ_self _, i + 1, rest, φ1, h5', tk5, rfl, Z5, it5, fun j => ?_, by simp only [List.length_cons] at hlen; omega, k05, h5, rfl⟩
              have := hits (j + 1)
              rw [List.getElem?_cons_succ] at this
              rw [← this]; congr 1; omega
            | some dd =>
              simp only [Option.some.injEq] at h5; subst h5
              refine fun v rv => h h5' tk5 (back Z5 ⟨_, it5⟩ .refl) (fun b o nb eb => ?_) v (rv.av fun b _ _ q => .inl q)
              have bI : b ≠ I := by rintro rfl; have := k1 _ _ (fun q => nb (.inl q)) eb; rw [fr] at this; cases this
              exact k05 b o (fun q => q.elim nb bI) eb
        · cases h0
    | _ => exact no' h0
end
end Mine
namespace Mine
open PySem PySem.Spec PySem.Calls PyProof.Rows PySem.W
set_option linter.unusedVariables false

theorem binds_look {X : Addr → Prop} {h : Heap} {kd : Str → Option NameKind} {x : Str} : ∀ {ps : List Str} {ds : List D} {vs : List Value} {d : D}, ps.Nodup → RpL X h ds vs → (ps.zip ds).lookup x = some d →
    ∃ v, Rp X h d v ∧ (kd x = some .local → ∀ m, bindL kd (ps.zip vs) m x = some v) ∧ (kd x = some .cell → ∀ m, bindC kd (ps.zip vs) m x = some v)
  | [], _, _, _, _, _, e => by simp at e
  | _ :: _, [], _, _, _, _, e => by simp at e
  | p :: ps, d0 :: ds, vs, d, nd, r, e => by
    simp only [RpL] at r
    obtain ⟨v, vs, rfl, r1, r2⟩ := r
    rw [List.nodup_cons] at nd
    have keepL : ∀ {l : List (Str × Value)} {m : Str → Option Value}, (∀ q ∈ l, q.1 ≠ x) → bindL kd l m x = m x := by
      intro l
      induction l with
      | nil => intro m _; rfl
      | cons q l ih =>
        intro m hq
        obtain ⟨n, u⟩ := q
        unfold bindL
        rw [ih fun q hq' => hq q (List.mem_cons_of_mem _ hq')]
        split
        · simp [Ne.symm (hq (n, u) List.mem_cons_self)]
        · rfl
    have keepC : ∀ {l : List (Str × Value)} {m : Str → Option Value}, (∀ q ∈ l, q.1 ≠ x) → bindC kd l m x = m x := by
      intro l
      induction l with
      | nil => intro m _; rfl
      | cons q l ih =>
        intro m hq
        obtain ⟨n, u⟩ := q
        unfold bindC
        rw [ih fun q hq' => hq q (List.mem_cons_of_mem _ hq')]
        split
        · rfl
        · simp [Ne.symm (hq (n, u) List.mem_cons_self)]
    rw [List.zip_cons_cons, List.lookup_cons] at e
    by_cases hx : x = p
    · subst hx
      simp only [beq_self_eq_true, Option.some.injEq] at e; subst e
      have no : ∀ q ∈ ps.zip vs, q.1 ≠ x := fun q hq e => nd.1 (e ▸ (List.of_mem_zip hq).1)
      refine ⟨v, r1, fun hk m => ?_, fun hk m => ?_⟩
      · rw [List.zip_cons_cons, bindL, keepL no, if_pos hk]; simp
      · rw [List.zip_cons_cons, bindC, keepC no, if_neg (by rw [hk]; decide)]; simp
    · rw [beq_eq_false_iff_ne.mpr hx] at e
      obtain ⟨u, ru, a, b⟩ := binds_look (kd := kd) nd.2 r2 e
      refine ⟨u, ru, fun hk m => ?_, fun hk m => ?_⟩
      · rw [List.zip_cons_cons, bindL]; exact a hk _
      · rw [List.zip_cons_cons, bindC]; exact b hk _

/-- the names of a def's block: no free ones; its parameters local or in a cell -/
noncomputable def defSc (sc : Sc) (ps : List Str) : Bool := sc.all (fun p => p.2 != .free) && ps.all (kindSt sc) && decide ps.Nodup && decide ((cellsFrom 0 sc []).map (·.1)).Nodup

section
variable {C : Cfg} {k : Nat}

/-- a def's frame is made -/
theorem frame_ok {fd : FuncData} {ps : List Str} {ds : List D} {vs : List Value} {X : Addr → Prop} {env : Env} {s s' : Shared} (hk : fd.scope.kind = .function) (hg : fd.globals = mainGlobals) (hbl : fd.builtins = builtinsNs) (hsc : defSc fd.scope.names ps = true)
    (H : HOk C s.heap) (x : XOk C X s.heap) (r : RpL X s.heap ds vs) {q : Str} {fn : Option Addr} {code : Value}
    (he : env = newEnv fd.scope s.heap.objs.size fd.globals (cellsFrom (s.heap.objs.size + 1) fd.scope.names []) q fn code none fd.builtins)
    (i : InCallC s env.locals (bindL env.kindOf (ps.zip vs) fun _ => none) env.cells (bindC env.kindOf (ps.zip vs) fun _ => none) s') :
    FrOk C (fun b => X b ∨ b = env.locals ∨ ∃ y, env.cells.lookup y = some b) fd.scope.names env (ps.zip ds) s'.heap ∧ (∀ b, (b = env.locals ∨ ∃ y, env.cells.lookup y = some b) → s.heap.get? b = none) := by
  simp only [defSc, Bool.and_eq_true, decide_eq_true_eq] at hsc
  obtain ⟨⟨⟨hnf, hps⟩, hnd⟩, hcn⟩ := hsc
  have elo : env.locals = s.heap.objs.size := by rw [he]; rfl
  have esc : env.scope = fd.scope := by rw [he]; rfl
  have ecl : env.cells = cellsFrom (s.heap.objs.size + 1) fd.scope.names [] := by rw [he]; rfl
  have kd : ∀ y, env.kindOf y = fd.scope.names.lookup y := fun y => by show env.scope.names.lookup y = _; rw [esc]
  have frL : s.heap.get? env.locals = none := by rw [elo]; exact get_size _
  have frC : ∀ y c, env.cells.lookup y = some c → s.heap.get? c = none := fun y c hc => by
    have := i.above y c (mem_of_lookup hc)
    cases qq : s.heap.get? c with
    | none => rfl
    | some o =>
      have h1 : c < s.heap.objs.size := Heap.lt_size qq
      rw [elo] at this
      exact absurd h1 (Nat.lt_asymm this)
  have fr : ∀ b, (b = env.locals ∨ ∃ y, env.cells.lookup y = some b) → s.heap.get? b = none := fun b q => by
    rcases q with q | ⟨y, q⟩
    · exact q ▸ frL
    · exact frC y b q
  have H' : HOk C s'.heap := H.keeps i.toInCall.keep
  have noTb : ∀ b, s.heap.get? b = none → ¬ C.Tb b := fun b e t => by obtain ⟨o, eo⟩ := H.tbEx t; rw [e] at eo; cases eo
  have nofree : ∀ y, fd.scope.names.lookup y ≠ some .free := fun y e => by
    have := List.all_eq_true.mp hnf _ (mem_lookup e)
    simp at this
  have hcell : ∀ y, fd.scope.names.lookup y = some .cell → ∃ c, env.cells.lookup y = some c := fun y e => by
    have := cellsFrom_some fd.scope.names (s.heap.objs.size + 1) [] (.inl e)
    rw [← ecl] at this
    exact Option.isSome_iff_exists.mp this
  have av : ∀ b o, s.heap.get? b = some o → (X b ∨ b = env.locals ∨ ∃ y, env.cells.lookup y = some b) → X b := fun b o e q => q.elim id fun q => by rw [fr b q] at e; cases e
  refine ⟨⟨⟨H', ⟨fun b q => .inl (x.tb b q), fun b q => ?_, fun b o q => .inl (x.bs b o q)⟩, ⟨by rw [esc]; exact hk, by rw [he]; exact hg, by rw [he]; exact hbl, noTb _ frL, .inr (.inl rfl), fun y c hc => noTb _ (frC y c hc), fun y c hc => .inr (.inr ⟨y, hc⟩), fun y => .inl (kd y), fun y hy => ?_, fun y d ey => ?_⟩⟩,
    ⟨_, i.toInCall.ns⟩, H.baseNone frL, fun y hy => ?_, fun y z c hy hz => name_of_addr i.apart (mem_of_lookup hy) (mem_of_lookup hz)⟩, fr⟩
  · rcases q with q | q | ⟨y, q⟩
    · obtain ⟨o, e⟩ := x.ex b q; exact ⟨o, i.toInCall.keep _ _ e⟩
    · exact q ▸ Ns_ex i.toInCall.ns
    · obtain ⟨o, e, _⟩ := i.cell y b q; exact ⟨o, e⟩
  · rcases hy with hy | hy
    · exact hcell y hy
    · exact absurd hy (nofree y)
  · obtain ⟨v, rv, a, b⟩ := binds_look (kd := env.kindOf) hnd r ey
    have hy : y ∈ ps := by
      have := mem_of_lookup ey
      exact (List.of_mem_zip this).1
    have hks := List.all_eq_true.mp hps y hy
    simp only [kindSt, okName, Bool.and_eq_true, Bool.not_eq_true', Bool.or_eq_true, beq_iff_eq] at hks
    refine ⟨hks.1.1, hks.1.2, v, (rv.av (X' := fun b => X b ∨ b = env.locals ∨ ∃ y, env.cells.lookup y = some b) av).kp (Y := fun _ => False) (fun b o _ e => i.toInCall.keep b o e) (fun _ q => q.elim), ?_⟩
    rcases hks.2 with q | q
    · exact .inl ⟨q, _, i.toInCall.ns, a (by rw [kd]; exact q) _⟩
    · obtain ⟨c, hc⟩ := hcell y q
      refine .inr ⟨.inl q, c, hc, ?_⟩
      have := i.cell y c hc
      rw [b (by rw [kd]; exact q)] at this
      exact this
  · obtain ⟨c, hc⟩ := hcell y hy
    exact ⟨c, _, hc, i.cell y c hc, H.baseNone (frC y c hc)⟩

/-- a def of the text without writes: its contract by its body's evaluation -/
structure DefAt (C : Cfg) (a : Addr) (fd : FuncData) (body : List Stmt) : Prop where
  ob : ∃ o, C.B.get? a = some o ∧ o.data = .func fd
  co : fd.scope.isCoroutine = false
  gen : fd.scope.isGenerator = false
  kind : fd.scope.kind = .function
  body : fd.body = .stmts body
  clo : fd.closure = []
  gl : fd.globals = mainGlobals
  bl : fd.builtins = builtinsNs
  cd : C.B.CodeRec fd.code fd.qualname

theorem enter_ok {a : Addr} {fd : FuncData} {body : List Stmt} {ps : List Str} {ds : List D} {vs vs' : List Value} {X : Addr → Prop} {A : Around} {s : Shared} {Q E : Value → Shared → Prop} (CO : CfgOk C) (DA : DefAt C a fd body)
    (hsc : defSc fd.scope.names ps = true) (K : Aok (k + 1) A) (H : HOk C s.heap) (x : XOk C X s.heap) (r : RpL X s.heap ds vs') (hb : BindsTo s fd ⟨vs, []⟩ (ps.zip vs'))
    (h : ∀ (env : Env) (s' : Shared), (∃ h' tk, s' = { s with heap := h', toks := tk }) → (∀ b o, s.heap.get? b = some o → s'.heap.get? b = some o) → (∀ b, (b = env.locals ∨ ∃ y, env.cells.lookup y = some b) → s.heap.get? b = none) →
      FrOk C (fun b => X b ∨ b = env.locals ∨ ∃ y, env.cells.lookup y = some b) fd.scope.names env (ps.zip ds) s'.heap → env.code = fd.code → env.qual = fd.qualname ++ ".<locals>." →
      wpAny (model C.prog C.w) (A.deeper env) (execs body env) (fun f s'' => Q (match f with | .ret v => v | _ => .none) s'') (fun _ _ => False) s') :
    wpAny (model C.prog C.w) A (call (.ref a) vs) Q E s := by
  obtain ⟨o, ho, hd⟩ := DA.ob
  refine wpAny_call (codeAny_call_function (body := body) (by have := K.depth; omega) (H.base _ _ ho) hd DA.co DA.gen DA.body (DA.cd.keeps H.base) ?_)
  refine hb _ _ _ _ ?_
  rw [DA.clo]
  have hsc' := hsc
  simp only [defSc, Bool.and_eq_true, decide_eq_true_eq] at hsc'
  refine wpAny_newFunctionEnv_cells DA.kind (fun y hy => ?_) fun env he s' i => ?_
  · have : y.1 ∈ ps := (List.of_mem_zip hy).1
    have hks := List.all_eq_true.mp hsc'.1.1.2 _ this
    simp only [kindSt, Bool.and_eq_true, Bool.or_eq_true, beq_iff_eq] at hks
    exact hks.2.imp id fun q => ⟨q, cellsFrom_some _ _ _ (.inl q)⟩
  · obtain ⟨F, fr⟩ := frame_ok DA.kind DA.gl DA.bl hsc H x r he i
    refine ⟨(CO.nolimit.keeps H.base).keeps i.toInCall.keep, codeAny_func ?_⟩
    exact wpAny_mono (h env s' i.toInCall.same i.toInCall.keep fr F (by rw [he]; rfl) (by rw [he]; rfl)) (fun f s'' q => q) fun _ _ q => q.elim

theorem fun_ok {G : Fn} {N n : Nat} {a : Addr} {fd : FuncData} {body : List Stmt} {ps : List Str} {ds ex : List D} {r : D} {φ' : Ph} {exv : List Value} (CO : CfgOk C) (GO : GOk C k G) (DA : DefAt C a fd body)
    (hsc : defSc fd.scope.names ps = true) (hex : ∀ X h, RpL X h ex exv) (hb : ∀ (vs : List Value) (s : Shared), HOk C s.heap → vs.length = ds.length → BindsTo s fd ⟨vs, []⟩ (ps.zip (vs ++ exv)))
    (ev : exB (exS G N n fd.scope.names) body (ps.zip (ds ++ ex)) = some (φ', some r)) : CallOk C (k + 1) (.ref a) ds r := by
  intro A X vs s Q E K H x rv h
  refine enter_ok CO DA hsc K H x (rv.append (hex X _)) (hb vs s H rv.length) fun env s' hs kp fr F _ _ => ?_
  obtain ⟨h1, tk1, rfl⟩ := hs
  refine exB_ok (exS_ok CO GO N n _) body _ _ ev (A.deeper env) _ env _ _ _ K.deeper F fun h' tk Z k' v rv' => ?_
  refine h v h' tk Z.st.H (fun b o nb eb => k' b o ?_ (kp b o eb)) (rv'.av fun b _ _ q => .inl q)
  rintro (q | q | ⟨y, _, q⟩)
  · exact nb q
  · rw [fr b (.inl q)] at eb; cases eb
  · rw [fr b (.inr ⟨y, q⟩)] at eb; cases eb
end
end Mine
namespace Mine
open PySem PySem.Spec PySem.Calls PyProof.Rows PySem.W
set_option linter.unusedVariables false

noncomputable def intsOf : List D → Option (List Int)
  | [] => some []
  | .int i :: r => (intsOf r).map (i :: ·)
  | _ :: _ => none
theorem intsOf_eq : ∀ {l : List D} {ns : List Int}, intsOf l = some ns → l = ns.map .int
  | [], ns, h => by simp only [intsOf, Option.some.injEq] at h; subst h; rfl
  | d :: r, ns, h => by
    cases d <;> simp only [intsOf, Option.map_eq_some_iff] at h <;> try cases h
    rename_i a hh
    obtain ⟨h1, rfl⟩ := hh
    rw [intsOf_eq h1]; rfl

noncomputable def insertZ (x : Int) : List Int → List Int
  | [] => [x]
  | y :: r => if x ≤ y then x :: y :: r else y :: insertZ x r
noncomputable def sortZ : List Int → List Int
  | [] => []
  | x :: r => insertZ x (sortZ r)
theorem insertZ_perm (x : Int) : ∀ l, (insertZ x l).Perm (x :: l)
  | [] => .refl _
  | y :: r => by
    unfold insertZ
    split
    · exact .refl _
    · exact ((insertZ_perm x r).cons y).trans (.swap x y r)
theorem sortZ_perm : ∀ l, (sortZ l).Perm l
  | [] => .refl _
  | x :: r => (insertZ_perm x _).trans ((sortZ_perm r).cons x)
theorem insertZ_sorted (x : Int) : ∀ {l : List Int}, l.Pairwise (· ≤ ·) → (insertZ x l).Pairwise (· ≤ ·)
  | [], _ => by simp [insertZ]
  | y :: r, h => by
    rw [List.pairwise_cons] at h
    unfold insertZ
    split
    · rename_i q
      refine List.pairwise_cons.mpr ⟨fun z hz => ?_, List.pairwise_cons.mpr h⟩
      rcases List.mem_cons.mp hz with rfl | hz
      · exact q
      · exact Int.le_trans q (h.1 z hz)
    · rename_i q
      refine List.pairwise_cons.mpr ⟨fun z hz => ?_, insertZ_sorted x h.2⟩
      rcases List.mem_cons.mp ((insertZ_perm x r).mem_iff.mp hz) with rfl | hz
      · omega
      · exact h.1 z hz
theorem sortZ_sorted : ∀ l, (sortZ l).Pairwise (· ≤ ·)
  | [] => .nil
  | x :: r => insertZ_sorted x (sortZ_sorted r)
theorem sorted_unique {a b : List Int} (ha : a.Pairwise (· ≤ ·)) (hb : b.Pairwise (· ≤ ·)) (h : a.Perm b) : a = b :=
  h.eq_of_pairwise (fun x y _ _ h1 h2 => Int.le_antisymm h1 h2) ha hb

section
variable {C : Cfg} {k : Nat} {X : Addr → Prop} {h : Heap}
theorem RpL.ints : ∀ {ns : List Int} {vs : List Value}, RpL X h (ns.map .int) vs → IntsAre vs ns
  | [], _, r => by simp only [List.map_nil, RpL] at r; subst r; exact .nil
  | n :: ns, _, r => by
    simp only [List.map_cons, RpL, Rp] at r
    obtain ⟨v, vs, rfl, ⟨t, rfl⟩, r⟩ := r
    exact .cons n t (RpL.ints r)
theorem RpL.of_ints : ∀ {ns : List Int} {vs : List Value}, IntsAre vs ns → RpL X h (ns.map .int) vs
  | [], vs, r => by cases r; simp [RpL]
  | n :: ns, vs, r => by
    cases r with
    | cons _ _ r => simp only [List.map_cons, RpL, Rp]; exact ⟨_, _, rfl, ⟨_, rfl⟩, RpL.of_ints r⟩

theorem keep_machine {fv : Value} (hf : ∀ a, fv ≠ .ref a) : Keepable C fv := fun h _ => ⟨.machine, .inr (.inl rfl), Looks.of_pure (by
  unfold keeperOf
  cases fv <;> first | rfl | exact absurd rfl (hf _))⟩
theorem keep_def {a : Addr} {fd : FuncData} {body : List Stmt} (d : DefAt C a fd body) : Keepable C (.ref a) := fun h H => ⟨.frame, .inl rfl, by
  obtain ⟨o, ho, hd⟩ := d.ob
  refine (Looks.ld (part := none) (H.base _ _ ho)).andThen ?_
  rw [hd]
  exact .now⟩

theorem one_arg {d : D} {vs : List Value} (r : RpL X h [d] vs) : ∃ v, vs = [v] ∧ Rp X h d v := by
  simp only [RpL] at r
  obtain ⟨v, w, rfl, a, rfl⟩ := r
  exact ⟨v, rfl, a⟩
theorem two_args {d e : D} {vs : List Value} (r : RpL X h [d, e] vs) : ∃ v u, vs = [v, u] ∧ Rp X h d v ∧ Rp X h e u := by
  simp only [RpL] at r
  obtain ⟨v, w, rfl, a, u, w', rfl, b, rfl⟩ := r
  exact ⟨v, u, rfl, a, b⟩

theorem len_ok {l : List D} (hz : l.length ≤ 1000) : CallOk C k (.builtin "len") [.lst l] (.int l.length) := by
  intro A X vs s Q E K H x r h
  obtain ⟨v, rfl, r1⟩ := one_arg r
  obtain ⟨a, vs, n, rfl, _, g, r⟩ := r1.lst_inv
  have hl := r.length
  simp only [Array.length_toList] at hl
  refine call_len_list (items := vs) ⟨_, g, rfl, n, rfl⟩ (by omega) ?_
  rw [hl]
  exact h.same H (by simp only [Rp]; exact ⟨_, rfl⟩) _
theorem range1_ok {n : Int} (hz : small n = true) : CallOk C k (.type "range") [.int n] (.rng 0 n.toNat) := by
  intro A X vs s Q E K H x r h
  obtain ⟨v, rfl, r1⟩ := one_arg r
  obtain ⟨t, rfl⟩ := r1.int_inv
  simp only [small, Bool.and_eq_true, decide_eq_true_eq] at hz
  refine call_range_1 (h _ _ _ (H.push _) (.push _) ?_)
  simp only [Rp]
  exact ⟨_, n, _, _, _, rfl, x.fresh, Heap.get?_push_size _ rfl, by omega, hz.1, hz.2⟩
theorem range2_ok {a b : Int} (hz : small b = true) : CallOk C k (.type "range") [.int a, .int b] (.rng a (b - a).toNat) := by
  intro A X vs s Q E K H x r h
  obtain ⟨v, u, rfl, r1, r2⟩ := two_args r
  obtain ⟨t, rfl⟩ := r1.int_inv
  obtain ⟨t', rfl⟩ := r2.int_inv
  simp only [small, Bool.and_eq_true, decide_eq_true_eq] at hz
  refine call_range_2 (h _ _ _ (H.push _) (.push _) ?_)
  simp only [Rp]
  exact ⟨_, b, _, _, _, rfl, x.fresh, Heap.get?_push_size _ rfl, rfl, hz.1, hz.2⟩
theorem sorted_ok {ns : List Int} (hz : ns.length < 64) : CallOk C k (.builtin "sorted") [.lst (ns.map .int)] (.lst ((sortZ ns).map .int)) := by
  intro A X vs s Q E K H x r h
  obtain ⟨v, rfl, r1⟩ := one_arg r
  obtain ⟨a, vs, n, rfl, _, g, r⟩ := r1.lst_inv
  have hl := r.length
  rw [List.length_map] at hl
  refine sorted_ints (vs := vs.toList) ⟨_, g, rfl, n, by simp⟩ r.ints (by omega) fun out ns' hI hp hs => ?_
  obtain ⟨e, he⟩ := sortedAll_at s.heap vs.toList out
  have kk : ∀ b o, s.heap.get? b = some o → (sortedAll s.heap vs.toList out).get? b = some o := fun b o eb => sortedAll_old eb
  have en : ns' = sortZ ns := sorted_unique hs (sortZ_sorted ns) (hp.trans (sortZ_perm ns).symm)
  refine h _ _ s.toks (H.keeps kk) (.of kk) ?_
  simp only [Rp]
  refine ⟨_, out, e, rfl, fun q => ?_, he, en ▸ RpL.of_ints hI⟩
  obtain ⟨o, eo⟩ := x.ex _ q
  have : s.heap.objs.size + 1 < s.heap.objs.size := Heap.lt_size eo
  omega
end
end Mine
namespace Mine
open PySem PySem.Spec PySem.Calls PyProof.Rows PySem.W
set_option linter.unusedVariables false
set_option maxRecDepth 100000

theorem lookup_none_of {x : Str} : ∀ {l : List (Str × Value)}, (∀ q ∈ l, q.1 ≠ x) → l.lookup x = none
  | [], _ => rfl
  | q :: l, h => by
    rw [show q :: l = (q.1, q.2) :: l from rfl, List.lookup_cons, beq_eq_false_iff_ne.mpr (Ne.symm (h q List.mem_cons_self))]
    exact lookup_none_of fun q hq => h q (List.mem_cons_of_mem _ hq)
theorem zip_look {X : Addr → Prop} {h : Heap} {x : Str} : ∀ {ps : List Str} {ds : List D} {vs : List Value} {d : D}, ps.Nodup → RpL X h ds vs → (ps.zip ds).lookup x = some d →
    ∃ v, Rp X h d v ∧ (ps.zip vs).reverse.lookup x = some v
  | [], _, _, _, _, _, e => by simp at e
  | _ :: _, [], _, _, _, _, e => by simp at e
  | p :: ps, d0 :: ds, vs, d, nd, r, e => by
    simp only [RpL] at r
    obtain ⟨v, vs, rfl, r1, r2⟩ := r
    rw [List.nodup_cons] at nd
    rw [List.zip_cons_cons, List.lookup_cons] at e
    rw [List.zip_cons_cons, List.reverse_cons, List.lookup_append]
    by_cases hx : x = p
    · subst hx
      simp only [beq_self_eq_true, Option.some.injEq] at e; subst e
      have no : ((ps.zip vs).reverse).lookup x = none := lookup_none_of fun q hq e => nd.1 (e ▸ (List.of_mem_zip (List.mem_reverse.mp hq)).1)
      exact ⟨v, r1, by rw [no]; simp⟩
    · rw [beq_eq_false_iff_ne.mpr hx] at e
      obtain ⟨u, ru, a⟩ := zip_look nd.2 r2 e
      exact ⟨u, ru, by rw [a]; rfl⟩
theorem lookup_app {α : Type} {x : Str} {l r : List (Str × α)} : (l ++ r).lookup x = (l.lookup x).or (r.lookup x) := List.lookup_append

/-- a nested def's object -/
structure NestAt (h : Heap) (f : Addr) (fd : FuncData) (body : List Stmt) : Prop where
  ob : ∃ o, h.get? f = some o ∧ o.data = .func fd
  co : fd.scope.isCoroutine = false
  gen : fd.scope.isGenerator = false
  kind : fd.scope.kind = .function
  body : fd.body = .stmts body
  gl : fd.globals = mainGlobals
  bl : fd.builtins = builtinsNs
  cd : h.CodeRec fd.code fd.qualname
  nc : ∀ x ∈ fd.scope.names, x.2 ≠ .cell

section
variable {C : Cfg} {k : Nat}

theorem enterN_ok {f : Addr} {fd : FuncData} {body : List Stmt} {ps : List Str} {ds : List D} {vs : List Value} {φc : Ph} {X : Addr → Prop} {A : Around} {s : Shared} {Q E : Value → Shared → Prop} (CO : CfgOk C) (DA : NestAt s.heap f fd body)
    (hnd : ps.Nodup) (hps : ∀ p ∈ ps, okName p = true ∧ fd.scope.names.lookup p = some .local) (K : Aok (k + 1) A) (H : HOk C s.heap) (x : XOk C X s.heap) (r : RpL X s.heap ds vs) (hb : bindArgs fd ⟨vs, []⟩ = pure (ps.zip vs))
    (hcx : ∀ y c, fd.closure.lookup y = some c → X c ∧ ¬ C.Tb c) (hcl : ∀ y, fd.scope.names.lookup y = some .free → ∃ c, fd.closure.lookup y = some c) (hap : ∀ x y c, fd.closure.lookup x = some c → fd.closure.lookup y = some c → x = y)
    (hφ : ∀ y d, φc.lookup y = some d → okName y = true ∧ fd.scope.names.lookup y = some .free ∧ ∃ c v, fd.closure.lookup y = some c ∧ s.heap.IsCell c (some v) ∧ Rp X s.heap d v)
    (h : ∀ (env : Env) (s' : Shared), (∃ h' tk, s' = { s with heap := h', toks := tk }) → (∀ b o, s.heap.get? b = some o → s'.heap.get? b = some o) → s.heap.get? env.locals = none →
      FrOk C (fun b => X b ∨ b = env.locals) fd.scope.names env (ps.zip ds ++ φc) s'.heap → env.cells = fd.closure →
      wpAny (model C.prog C.w) (A.deeper env) (execs body env) (fun f s'' => Q (match f with | .ret v => v | _ => .none) s'') (fun _ _ => False) s') :
    wpAny (model C.prog C.w) A (call (.ref f) vs) Q E s := by
  obtain ⟨o, ho, hd⟩ := DA.ob
  refine wpAny_call (codeAny_call_function (body := body) (by have := K.depth; omega) ho hd DA.co DA.gen DA.body DA.cd ?_)
  rw [hb]
  refine wpAny_pure (wpAny_newFunctionEnv DA.nc (fun q hq => (hps _ (List.of_mem_zip hq).1).2) (fun h1 hn hs => ?_) DA.kind)
  have kp : ∀ b o, s.heap.get? b = some o → h1.get? b = some o := fun b o e => hs.extBut b o (Nat.ne_of_lt (Heap.lt_size e)) (Heap.get?_push_of_some _ e)
  have kK : Kp (fun _ => False) s.heap h1 := fun b o _ e => kp b o e
  have H1 : HOk C h1 := H.keeps kp
  have fr : s.heap.get? s.heap.objs.size = none := get_size _
  have noTb : ¬ C.Tb s.heap.objs.size := fun t => by obtain ⟨o, eo⟩ := H.tbEx t; rw [fr] at eo; cases eo
  have av : ∀ b o, s.heap.get? b = some o → (X b ∨ b = s.heap.objs.size) → X b := fun b o e q => q.elim id fun q => by subst q; rw [fr] at e; cases e
  refine ⟨(CO.nolimit.keeps H.base).keeps kp, codeAny_func ?_⟩
  refine wpAny_mono (h _ { s with heap := h1, toks := s.toks + (ps.zip vs).length } ⟨_, _, rfl⟩ kp fr ?_ rfl) (fun f s'' q => q) fun _ _ q => q.elim
  refine ⟨⟨H1, ⟨fun b q => .inl (x.tb b q), fun b q => ?_, fun b o q => .inl (x.bs b o q)⟩, ⟨DA.kind, DA.gl, DA.bl, noTb, .inr rfl, fun y c hc => (hcx y c hc).2, fun y c hc => .inl (hcx y c hc).1, fun y => .inl rfl, fun y hy => ?_, fun y d ey => ?_⟩⟩, ⟨_, hn⟩, H.baseNone fr, fun y hy => ?_, hap⟩
  · rcases q with q | q
    · obtain ⟨o, e⟩ := x.ex b q; exact ⟨o, kp _ _ e⟩
    · exact q ▸ Ns_ex hn
  · rcases hy with hy | hy
    · exact absurd rfl (DA.nc _ (mem_lookup hy))
    · exact hcl y hy
  · rw [lookup_app] at ey
    cases hq : (ps.zip ds).lookup y with
    | some d' =>
      rw [hq] at ey; cases ey
      obtain ⟨v, rv, a⟩ := zip_look hnd r hq
      have hy := hps y (List.of_mem_zip (mem_of_lookup hq)).1
      have hok := hy.1
      simp only [okName, Bool.and_eq_true, Bool.not_eq_true'] at hok
      exact ⟨hok.1, hok.2, v, (rv.av (X' := fun b => X b ∨ b = s.heap.objs.size) av).kp kK (fun _ q => q.elim), .inl ⟨hy.2, _, hn, a⟩⟩
    | none =>
      rw [hq] at ey
      obtain ⟨hok, hf, c, v, h1, h2, h3⟩ := hφ y d ey
      simp only [okName, Bool.and_eq_true, Bool.not_eq_true'] at hok
      exact ⟨hok.1, hok.2, v, (h3.av (X' := fun b => X b ∨ b = s.heap.objs.size) av).kp kK (fun _ q => q.elim), .inr ⟨.inr hf, c, h1, h2.keeps kp⟩⟩
  · exact absurd rfl (DA.nc _ (mem_lookup hy))
end
end Mine
namespace Mine
open PySem PySem.Spec PySem.Calls PyProof.Rows PySem.W
set_option linter.unusedVariables false
set_option maxRecDepth 100000

mutual
/-- no list within -/
noncomputable def solid : D → Bool
  | .none => true
  | .bool _ => true
  | .int _ => true
  | .tup l => solidL l
  | .adr _ => true
  | .dct _ vs => solidL vs
  | _ => false
noncomputable def solidL : List D → Bool
  | [] => true
  | d :: l => solid d && solidL l
end

/-- a mutable list: its name, its address, what it holds -/
noncomputable abbrev Ms := List (Str × Addr × List D)
noncomputable def Md (ms : Ms) (b : Addr) : Prop := ∃ q ∈ ms, q.2.1 = b
noncomputable def Xm (X : Addr → Prop) (ms : Ms) (b : Addr) : Prop := X b ∨ Md ms b
noncomputable def view (ms : Ms) (φ : Ph) : Ph := ms.map (fun q => (q.1, D.lst q.2.2)) ++ φ
noncomputable def HoldsL (X : Addr → Prop) (h : Heap) (a : Addr) (l : List D) : Prop := ∃ vs n, h.get? a = some (lstO vs n) ∧ RpL X h l vs.toList

mutual
theorem Rp.solid {X : Addr → Prop} {ms : Ms} {h : Heap} (hm : ∀ q ∈ ms, ∃ vs n, h.get? q.2.1 = some (lstO vs n)) : ∀ {d : D} {v : Value}, Mine.solid d = true → Rp X h d v → Rp (Xm X ms) h d v
  | .none, _, _, x => x
  | .bool _, _, _, x => x
  | .int _, _, _, x => x
  | .adr _, _, _, x => x
  | .tup l, _, e, x => by
    simp only [Rp] at x ⊢
    simp only [Mine.solid] at e
    obtain ⟨a, vs, n, e1, hx, g, r⟩ := x
    refine ⟨a, vs, n, e1, fun q => ?_, g, RpL.solid hm e r⟩
    rcases q with q | ⟨q, hq, e2⟩
    · exact hx q
    · obtain ⟨ws, m, e3⟩ := hm q hq
      rw [e2, g] at e3
      have := congrArg (Option.map Obj.cls) e3
      simp at this
  | .lst _, _, e, _ => by simp [Mine.solid] at e
  | .rng _ _, _, e, _ => by simp [Mine.solid] at e
  | .dct ks vs, _, e, x => by
    simp only [Mine.solid] at e
    simp only [Rp] at x ⊢
    obtain ⟨a, es, ep, e1, hx, hs, g, nd, y, r⟩ := x
    have keys : ∀ {ks : List (Int × Int)} {l : List DictEntry}, KeysAt X h ks l → KeysAt (Xm X ms) h ks l := by
      intro ks
      induction ks with
      | nil => intro l z; exact z
      | cons k ks ih =>
        intro l z
        obtain ⟨e, r, e1, ⟨e2, a, n, t, u, e3, hx, g⟩, z'⟩ := z
        refine ⟨e, r, e1, ⟨e2, a, n, t, u, e3, fun q => ?_, g⟩, ih z'⟩
        rcases q with q | ⟨q, hq, e4⟩
        · exact hx q
        · obtain ⟨ws, m, e5⟩ := hm q hq
          rw [e4, g] at e5
          have := congrArg (Option.map Obj.cls) e5
          simp at this
    refine ⟨a, es, ep, e1, fun q => ?_, hs, g, nd, keys y, RpL.solid hm e r⟩
    rcases q with q | ⟨q, hq, e2⟩
    · exact hx q
    · obtain ⟨ws, m, e3⟩ := hm q hq
      rw [e2, g] at e3
      have := congrArg (Option.map Obj.cls) e3
      simp at this
  | .itm .., _, e, _ => by simp [Mine.solid] at e
theorem RpL.solid {X : Addr → Prop} {ms : Ms} {h : Heap} (hm : ∀ q ∈ ms, ∃ vs n, h.get? q.2.1 = some (lstO vs n)) : ∀ {l : List D} {vs : List Value}, solidL l = true → RpL X h l vs → RpL (Xm X ms) h l vs
  | [], _, _, x => x
  | d :: l, _, e, x => by
    simp only [RpL] at x ⊢
    simp only [solidL, Bool.and_eq_true] at e
    obtain ⟨v, r, e1, a, b⟩ := x
    exact ⟨v, r, e1, Rp.solid hm e.1 a, RpL.solid hm e.2 b⟩
end

structure MFr (C : Cfg) (X : Addr → Prop) (sc : Sc) (env : Env) (φ : Ph) (ms : Ms) (h : Heap) : Prop where
  fr : FrOk C (Xm X ms) sc env φ h
  tb : ∀ b, C.Tb b → X b
  xl : X env.locals
  xc : ∀ y c, env.cells.lookup y = some c → X c
  ls : ∀ q ∈ ms, HoldsL (Xm X ms) h q.2.1 q.2.2 ∧ C.B.get? q.2.1 = none ∧ ¬ X q.2.1 ∧ φ.lookup q.1 = some (.adr q.2.1)
  ap : (ms.map (·.2.1)).Nodup
  bs : ∀ b o, C.B.get? b = some o → X b

theorem lookup_ms {x : Str} : ∀ {ms : Ms} {d : D}, (ms.map fun q => (q.1, D.lst q.2.2)).lookup x = some d → ∃ a l, (x, a, l) ∈ ms ∧ d = .lst l
  | [], d, e => by simp at e
  | (y, a, l) :: ms, d, e => by
    rw [List.map_cons, List.lookup_cons] at e
    by_cases q : x = y
    · subst q
      simp only [beq_self_eq_true, Option.some.injEq] at e
      exact ⟨a, l, List.mem_cons_self, e.symm⟩
    · rw [beq_eq_false_iff_ne.mpr q] at e
      obtain ⟨a', l', h1, h2⟩ := lookup_ms e
      exact ⟨a', l', List.mem_cons_of_mem _ h1, h2⟩

section
variable {C : Cfg} {k : Nat} {sc : Sc} {env : Env} {φ : Ph} {A : Around} {X : Addr → Prop} {E : Value → Shared → Prop} {s : Shared} {h h' : Heap} {ms : Ms}
theorem HoldsL.kp {Y : Addr → Prop} {a : Addr} {l : List D} (x : HoldsL X h a l) (k : Kp Y h h') (s : ∀ b, Y b → X b) (n : ¬ Y a) : HoldsL X h' a l := let ⟨vs, n', e, r⟩ := x; ⟨vs, n', k _ _ n e, r.kp k s⟩
theorem MFr.hm (F : MFr C X sc env φ ms h) : ∀ q ∈ ms, ∃ vs n, h.get? q.2.1 = some (lstO vs n) := fun q hq => let ⟨vs, n, e, _⟩ := (F.ls q hq).1; ⟨vs, n, e⟩

/-- the lists seen as data -/
theorem MFr.seen (F : MFr C X sc env φ ms h) : FrOk C X sc env (view ms φ) h := by
  have G : FrOk C X sc env φ h := F.fr.shr (fun b q => .inl q) F.tb F.xl F.xc F.bs
  have e := G.st.e
  refine ⟨⟨G.st.H, G.st.x, ⟨e.fn, e.gl, e.bl, e.nl, e.xl, e.nc, e.xc, e.kd, e.cl, fun y d ey => ?_⟩⟩, G.ns, G.lB, G.cx, G.ap⟩
  rw [view, lookup_app] at ey
  cases hq : (ms.map fun q => (q.1, D.lst q.2.2)).lookup y with
  | none => rw [hq] at ey; exact e.ld y d ey
  | some d' =>
    rw [hq] at ey; cases ey
    obtain ⟨a, l, hm, rfl⟩ := lookup_ms hq
    obtain ⟨⟨vs, n, e1, r⟩, _, nx, e2⟩ := F.ls _ hm
    obtain ⟨h1, h2, v, rv, z⟩ := e.ld y _ e2
    simp only [Rp] at rv
    subst rv
    refine ⟨h1, h2, _, ?_, z⟩
    simp only [Rp]
    exact ⟨a, vs, n, rfl, nx, e1, r.av fun b o _ q => .inl q⟩

theorem FrOk.sub {φ' : Ph} (F : FrOk C X sc env φ h) (e : ∀ x d, φ'.lookup x = some d → φ.lookup x = some d) : FrOk C X sc env φ' h :=
  let z := F.st.e
  ⟨⟨F.st.H, F.st.x, ⟨z.fn, z.gl, z.bl, z.nl, z.xl, z.nc, z.xc, z.kd, z.cl, fun y d q => z.ld y d (e y d q)⟩⟩, F.ns, F.lB, F.cx, F.ap⟩

theorem FrOk.chg {a : Addr} (F : FrOk C X sc env φ h) (H : HOk C h') (k : Kp (fun b => C.Tb b ∨ b = a) h h') (xa : X a) (ex : ∃ o, h'.get? a = some o) (nl : a ≠ env.locals) (nc : ∀ x c, env.cells.lookup x = some c → c ≠ a) : FrOk C X sc env φ h' := by
  have nl' : ¬ (C.Tb env.locals ∨ env.locals = a) := fun q => q.elim F.st.e.nl fun q => nl q.symm
  have nc' : ∀ x c, env.cells.lookup x = some c → ¬ (C.Tb c ∨ c = a) := fun x c e q => q.elim (F.st.e.nc x c e) (nc x c e)
  refine ⟨⟨H, F.st.x.via H k fun b q _ => (by rcases q with q | q; exact .inl q; exact .inr (q ▸ ex)), F.st.e.kpY k (fun b q => by rcases q with q | q; exact F.st.x.tb b q; rw [q]; exact xa) nl' nc'⟩, let ⟨m, n⟩ := F.ns; ⟨m, Ns_kp n k nl'⟩, F.lB, fun y hy => ?_, F.ap⟩
  obtain ⟨c, v, b1, ⟨o, ho, hd⟩, b2⟩ := F.cx y hy
  exact ⟨c, v, b1, ⟨o, k _ _ (nc' y c b1) ho, hd⟩, b2⟩

theorem MFr.nloc (F : MFr C X sc env φ ms h) {q : Str × Addr × List D} (hq : q ∈ ms) : q.2.1 ≠ env.locals := fun e => (F.ls q hq).2.2.1 (e ▸ F.xl)
theorem MFr.ncel (F : MFr C X sc env φ ms h) {q : Str × Addr × List D} (hq : q ∈ ms) : ∀ x c, env.cells.lookup x = some c → c ≠ q.2.1 := fun x c e w => (F.ls q hq).2.2.1 (w ▸ F.xc x c e)
theorem MFr.ntb (F : MFr C X sc env φ ms h) {q : Str × Addr × List D} (hq : q ∈ ms) : ¬ C.Tb q.2.1 := fun e => (F.ls q hq).2.2.1 (F.tb _ e)
theorem MFr.nyf (F : MFr C X sc env φ ms h) {q : Str × Addr × List D} (hq : q ∈ ms) : ¬ Yf C sc env q.2.1 := fun e => by
  rcases e with e | e | ⟨y, _, e⟩
  · exact F.ntb hq e
  · exact F.nloc hq e
  · exact F.ncel hq y _ e rfl

theorem MFr.kp (F : MFr C X sc env φ ms h) (H : HOk C h') (k : Kp C.Tb h h') : MFr C X sc env φ ms h' :=
  ⟨F.fr.kp H k, F.tb, F.xl, F.xc, fun q hq => let ⟨a, b⟩ := F.ls q hq; ⟨a.kp k (fun b q => .inl (F.tb b q)) (F.ntb hq), b⟩, F.ap, F.bs⟩
/-- names change, the lists stay -/
theorem MFr.names {φ' : Ph} (F : MFr C X sc env φ ms h) (G : FrOk C (Xm X ms) sc env φ' h') (k : Kp (Yf C sc env) h h') (e : ∀ q ∈ ms, φ'.lookup q.1 = φ.lookup q.1) : MFr C X sc env φ' ms h' :=
  ⟨G, F.tb, F.xl, F.xc, fun q hq => let ⟨a, b, c, d⟩ := F.ls q hq; ⟨a.kp k (Yf_X F.fr) (F.nyf hq), b, c, (e q hq).trans d⟩, F.ap, F.bs⟩

noncomputable def setM (a : Addr) (l : List D) (ms : Ms) : Ms := ms.map fun q => if q.2.1 = a then (q.1, a, l) else q
theorem Md_setM {a b : Addr} {l : List D} : Md (setM a l ms) b ↔ Md ms b := by
  unfold Md setM
  constructor
  · rintro ⟨q, hq, e⟩
    obtain ⟨p, hp, rfl⟩ := List.mem_map.mp hq
    refine ⟨p, hp, ?_⟩
    split at e
    · rename_i w; rw [w]; exact e
    · exact e
  · rintro ⟨p, hp, e⟩
    refine ⟨_, List.mem_map.mpr ⟨p, hp, rfl⟩, ?_⟩
    split
    · rename_i w; rw [← e, w]
    · exact e
theorem Xm_setM {a : Addr} {l : List D} : Xm X (setM a l ms) = Xm X ms := funext fun b => propext (or_congr Iff.rfl Md_setM)
/-- one list changes -/
theorem MFr.change {a : Addr} {l : List D} (F : MFr C X sc env φ ms h) (hq : Md ms a) (H : HOk C h') (k : Kp (fun b => C.Tb b ∨ b = a) h h') (hl : HoldsL (Xm X ms) h' a l) : MFr C X sc env φ (setM a l ms) h' := by
  obtain ⟨q, hq, rfl⟩ := hq
  have ex : ∃ o, h'.get? q.2.1 = some o := let ⟨vs, n, e, _⟩ := hl; ⟨_, e⟩
  have xa : Xm X ms q.2.1 := .inr ⟨q, hq, rfl⟩
  refine ⟨by rw [Xm_setM]; exact F.fr.chg H k xa ex (F.nloc hq) (F.ncel hq), F.tb, F.xl, F.xc, fun p hp => ?_, ?_, F.bs⟩
  · obtain ⟨p, hp0, rfl⟩ := List.mem_map.mp hp
    rw [Xm_setM]
    split
    · rename_i w
      obtain ⟨a1, a2, a3, a4⟩ := F.ls p hp0
      rw [w] at a2 a3 a4
      exact ⟨hl, a2, a3, a4⟩
    · rename_i w
      obtain ⟨a1, a2⟩ := F.ls p hp0
      refine ⟨a1.kp k (fun b z => z.elim (fun z => .inl (F.tb b z)) fun z => z ▸ xa) fun z => z.elim (F.ntb hp0) w, a2⟩
  · have : (setM q.2.1 l ms).map (·.2.1) = ms.map (·.2.1) := by
      unfold setM
      rw [List.map_map]
      refine List.map_congr_left fun p _ => ?_
      simp only [Function.comp]
      split
      · rename_i w; exact w.symm
      · rfl
    rw [this]; exact F.ap
end
end Mine
namespace Mine
open PySem PySem.Spec PySem.Calls PyProof.Rows PySem.W
set_option linter.unusedVariables false
set_option maxRecDepth 100000

section
variable {C : Cfg} {k : Nat} {sc : Sc} {env : Env} {φ : Ph} {A : Around} {X : Addr → Prop} {E : Value → Shared → Prop} {s : Shared} {h h' : Heap} {ms : Ms} {I : Addr}
theorem Xm_or : Xm (fun b => X b ∨ b = I) ms = fun b => Xm X ms b ∨ b = I := funext fun b => propext ⟨fun q => by
  rcases q with (q | q) | q
  · exact .inl (.inl q)
  · exact .inr q
  · exact .inl (.inr q), fun q => by
  rcases q with (q | q) | q
  · exact .inl (.inl q)
  · exact .inr q
  · exact .inl (.inr q)⟩
theorem MFr.grow (F : MFr C X sc env φ ms h) (fr : h.get? I = none) (k : ∀ b o, h.get? b = some o → h'.get? b = some o) (H : HOk C h') (ex : ∃ o, h'.get? I = some o) : MFr C (fun b => X b ∨ b = I) sc env φ ms h' := by
  refine ⟨by rw [Xm_or]; exact F.fr.grow fr k H ex, fun b q => .inl (F.tb b q), .inl F.xl, fun y c e => .inl (F.xc y c e), fun q hq => ?_, F.ap, fun b o q => .inl (F.bs b o q)⟩
  obtain ⟨⟨vs, n, e, r⟩, b, c, d⟩ := F.ls q hq
  refine ⟨⟨vs, n, k _ _ e, ?_⟩, b, fun z => z.elim c fun z => ?_, d⟩
  · rw [Xm_or]
    exact (r.av (X' := fun b => Xm X ms b ∨ b = I) fun b o e q => q.elim id fun q => by subst q; rw [fr] at e; cases e).kp (Y := fun _ => False) (fun b o _ e => k b o e) fun _ q => q.elim
  · rw [z, fr] at e; cases e
theorem MFr.letGo (F : MFr C (fun b => X b ∨ b = I) sc env φ ms h) (k : Kp (fun b => b = I) h h') (na : ∀ b, X b → b ≠ I) (tb : ∀ b, C.Tb b → X b) (xl : X env.locals) (xc : ∀ y c, env.cells.lookup y = some c → X c)
    (hb : C.B.get? I = none) (hj : ¬ JA h I) (bs : ∀ b o, C.B.get? b = some o → X b) : MFr C X sc env φ ms h' := by
  have na' : ∀ b, Xm X ms b → b ≠ I := fun b q => q.elim (na b) fun ⟨p, hp, e⟩ w => (F.ls p hp).2.2.1 (.inr (e.trans w))
  have f := F.fr
  rw [Xm_or] at f
  refine ⟨f.letGo k na' (fun b q => .inl (tb b q)) (.inl xl) (fun y c e => .inl (xc y c e)) hb hj (fun b o q => .inl (bs b o q)), tb, xl, xc, fun q hq => ?_, F.ap, bs⟩
  obtain ⟨⟨vs, n, e, r⟩, b, c, d⟩ := F.ls q hq
  rw [Xm_or] at r
  exact ⟨⟨vs, n, k _ _ (na' _ (.inr ⟨q, hq, rfl⟩)) e, (r.kp k fun b q => .inr q).av fun b o _ q => .inl q⟩, b, fun z => c (.inl z), d⟩
theorem MFr.other (F : MFr C X sc env φ ms h) (k : Kp (fun b => b = I) h h') (xa : X I) (hb : C.B.get? I = none) (hj : ¬ JA h I) (ex : ∃ o, h'.get? I = some o) (nl : I ≠ env.locals) (nc : ∀ x c, env.cells.lookup x = some c → c ≠ I) : MFr C X sc env φ ms h' :=
  ⟨F.fr.other k (.inl xa) hb hj ex nl nc, F.tb, F.xl, F.xc, fun q hq => let ⟨a, b, c, d⟩ := F.ls q hq; ⟨a.kp k (fun b z => .inl (z ▸ xa)) fun z => c (z ▸ xa), b, c, d⟩, F.ap, F.bs⟩

theorem MFr.sub {φ' : Ph} (F : MFr C X sc env φ ms h) (e : ∀ y d, φ'.lookup y = some d → φ.lookup y = some d) (e2 : ∀ q ∈ ms, φ'.lookup q.1 = some (.adr q.2.1)) : MFr C X sc env φ' ms h :=
  ⟨F.fr.sub e, F.tb, F.xl, F.xc, fun q hq => let ⟨a, b, c, _⟩ := F.ls q hq; ⟨a, b, c, e2 q hq⟩, F.ap, F.bs⟩
/-- one more list is set apart -/
theorem MFr.more {φ' : Ph} {wx : Str} {Lw : Addr} {w0 : List D} {vs : Array Value} {n : Nat} (F : MFr C X sc env φ ms h) (hx : ¬ Xm X ms Lw) (g : h.get? Lw = some (lstO vs n)) (r : RpL (Xm X ms) h w0 vs.toList) (hs : solidL w0 = true) (hms : ∀ q ∈ ms, solidL q.2.2 = true)
    (hw : ∃ v, v = Value.ref Lw ∧ φ.lookup wx = some (.lst w0) ∧ ((sc.lookup wx = some .local ∧ ∃ m, h.Ns env.locals m ∧ m wx = some v) ∨ ((sc.lookup wx = some .cell ∨ sc.lookup wx = some .free) ∧ ∃ c, env.cells.lookup wx = some c ∧ h.IsCell c (some v))))
    (hφ : ∀ y d, φ'.lookup y = some d → (φ.lookup y = some d ∧ solid d = true) ∨ (y = wx ∧ d = .adr Lw)) (hw' : φ'.lookup wx = some (.adr Lw)) (hφm : ∀ q ∈ ms, φ'.lookup q.1 = some (.adr q.2.1)) : MFr C X sc env φ' ((wx, Lw, w0) :: ms) h := by
  have eX : Xm X ((wx, Lw, w0) :: ms) = Xm (Xm X ms) [(wx, Lw, w0)] := by
    funext b
    simp only [Xm, Md, List.mem_cons, List.mem_singleton]
    refine propext ⟨?_, ?_⟩
    · rintro (q | ⟨p, q | q, e⟩)
      · exact .inl (.inl q)
      · exact .inr ⟨p, .inl q, e⟩
      · exact .inl (.inr ⟨p, q, e⟩)
    · rintro ((q | ⟨p, q, e⟩) | ⟨p, q | q, e⟩)
      · exact .inl q
      · exact .inr ⟨p, .inr q, e⟩
      · exact .inr ⟨p, .inl q, e⟩
      · cases q
  have hm1 : ∀ q ∈ [(wx, Lw, w0)], ∃ vs n, h.get? q.2.1 = some (lstO vs n) := fun q hq => by
    rw [List.mem_singleton] at hq; subst hq; exact ⟨_, _, g⟩
  have z := F.fr.st.e
  have x0 := F.fr.st.x
  refine ⟨?_, F.tb, F.xl, F.xc, fun q hq => ?_, ?_, F.bs⟩
  · rw [eX]
    refine ⟨⟨F.fr.st.H, ⟨fun b q => .inl (x0.tb b q), fun b q => ?_, fun b o q => .inl (x0.bs b o q)⟩, ⟨z.fn, z.gl, z.bl, z.nl, .inl z.xl, z.nc, fun y c q => .inl (z.xc y c q), z.kd, z.cl, fun y d q => ?_⟩⟩, F.fr.ns, F.fr.lB, F.fr.cx, F.fr.ap⟩
    · rcases q with q | ⟨p, hp, q⟩
      · exact x0.ex b q
      · rw [List.mem_singleton] at hp; subst hp; exact ⟨_, (show Lw = b from q) ▸ g⟩
    · rcases hφ y d q with ⟨a, b⟩ | ⟨rfl, rfl⟩
      · obtain ⟨h1, h2, v, rv, w⟩ := z.ld y d a
        exact ⟨h1, h2, v, rv.solid hm1 b, w⟩
      · obtain ⟨v, rfl, e1, w⟩ := hw
        obtain ⟨h1, h2, _⟩ := z.ld _ _ e1
        exact ⟨h1, h2, _, by simp only [Rp], w⟩
  · rcases List.mem_cons.mp hq with rfl | hq'
    · rw [eX]
      exact ⟨⟨vs, n, g, r.solid hm1 hs⟩, by
        cases w : C.B.get? Lw with
        | none => rfl
        | some o => exact absurd (.inl (F.bs _ _ w)) hx, fun w => hx (.inl w), hw'⟩
    · obtain ⟨⟨ws, m, e, rr⟩, b, c, _⟩ := F.ls q hq'
      rw [eX]
      exact ⟨⟨ws, m, e, rr.solid hm1 (hms q hq')⟩, b, c, hφm q hq'⟩
  · rw [List.map_cons, List.nodup_cons]
    refine ⟨fun w => ?_, F.ap⟩
    obtain ⟨q, hq, e⟩ := List.mem_map.mp w
    exact hx (.inr ⟨q, hq, e⟩)

noncomputable def Ym (C : Cfg) (sc : Sc) (env : Env) (ms : Ms) (b : Addr) : Prop := Yf C sc env b ∨ Md ms b

theorem lookup_setA_ne {x y : Str} {d : D} (n : y ≠ x) : (setA x d φ).lookup y = φ.lookup y := by rw [lookup_setA, if_neg n]

/-- a name is bound, the lists stay -/
theorem MFr.bind {x : Str} {p : Pos} {d : D} {v : Value} {Q : Unit → Shared → Prop} (F : MFr C X sc env φ ms s.heap) (hx : kindSt sc x = true) (hn : ∀ q ∈ ms, q.1 ≠ x) (r : Rp (Xm X ms) s.heap d v)
    (h : ∀ h' tk, MFr C X sc env (setA x d φ) ms h' → Kp (Ym C sc env ms) s.heap h' → Q () { s with heap := h', toks := tk }) : wpAny (model C.prog C.w) A (assign (.Name x p) env v) Q E s :=
  assign_ok F.fr hx r fun h' tk F' k' => h h' tk (F.names F' k' fun q hq => lookup_setA_ne (hn q hq)) (k'.mono fun b q => .inl q)

theorem MFr.stor {x : Str} {d : D} {v : Value} {Q : Unit → Shared → Prop} (F : MFr C X sc env φ ms s.heap) (hx : kindSt sc x = true) (hn : ∀ q ∈ ms, q.1 ≠ x) (r : Rp (Xm X ms) s.heap d v)
    (h : ∀ h' tk, MFr C X sc env (setA x d φ) ms h' → Kp (Yf C sc env) s.heap h' → Q () { s with heap := h', toks := tk }) : wpAny (model C.prog C.w) A (storeName env x v) Q E s :=
  store_ok F.fr hx r fun h' tk F' k' => h h' tk (F.names F' (k'.mono fun b q => .inr q) fun q hq => lookup_setA_ne (hn q hq)) (k'.mono fun b q => .inr q)

/-- a for loop whose turns may change the lists -/
theorem forM_ok {G : Fn} {N : Nat} {x : Str} {p pos : Pos} {it : Expr} {b : List Stmt} {d : D} {its : List D} {Q : Flow → Shared → Prop} (CO : CfgOk C) (GO : GOk C k G) (K : Aok k A) (F : MFr C X sc env φ ms s.heap) (hx : kindLo sc x = true)
    (P : List D → Ph → Ms → Prop) {φe : Ph} (he : ∀ y d, φe.lookup y = some d → φ.lookup y = some d) (h1 : ev G N sc φe it = some d) (h2 : itemsD d = some its) (h3 : P its φ ms) (hmd : ∀ l φ' ms', P l φ' ms' → (∀ q ∈ ms', q.1 ≠ x) ∧ ∀ b, Md ms' b ↔ Md ms b)
    (turn : ∀ d rest φ' ms', P (d :: rest) φ' ms' → ∀ (X' : Addr → Prop) (s' : Shared), MFr C X' sc env (setA x d φ') ms' s'.heap → (∀ b, X b → X' b) → (∃ h' tk, s' = { s with heap := h', toks := tk }) →
      ∀ (Q' : Flow → Shared → Prop) (E' : Value → Shared → Prop), (∀ φ'' ms'' h'' tk'', P rest φ'' ms'' → MFr C X' sc env φ'' ms'' h'' → Kp (Ym C sc env ms) s'.heap h'' → Q' .next { s with heap := h'', toks := tk'' }) → wpAny (model C.prog C.w) A (execs b env) Q' E' s')
    (fin : ∀ φ' ms' h' tk, P [] φ' ms' → MFr C X sc env φ' ms' h' → Kp (Ym C sc env ms) s.heap h' → Q .next { s with heap := h', toks := tk }) :
    wpAny (model C.prog C.w) A (exec (.For (.Name x p) it b [] pos) env) Q E s := by
  have EV := ev_ok CO GO N
  have hx' : kindSt sc x = true := by
    simp only [kindLo, Bool.and_eq_true] at hx
    simp only [kindSt, Bool.and_eq_true, Bool.or_eq_true]; exact ⟨hx.1, .inl hx.2⟩
  refine wpAny_For (EV.1 _ sc env φe it d h1 A s _ E K (F.fr.sub he).st fun v h1 tk1 H1 k1 r1 => ?_) (fun x => ev_set h1 env x)
  have Z1 := F.kp H1 k1
  refine iter_ok (C := C) Z1.fr.st.x r1 h2 fun ob _ hit => ?_
  have fr := get_size h1
  dsimp only at hit ⊢
  generalize hN : h1.objs.size = I at *
  have neX : ∀ b, Xm X ms b → b ≠ I := fun b hb q => by obtain ⟨o, e⟩ := Z1.fr.st.x.ex b hb; rw [q, fr] at e; cases e
  have itEx : ∀ {X' h i}, ItAt X' h I its i → ∃ o, h.get? I = some o := fun q => q.ex
  have Z2 : MFr C (fun b => X b ∨ b = I) sc env φ ms (h1.push ob) := Z1.grow fr (fun b o e => Heap.get?_push_of_some _ e) (H1.push ob) (itEx hit)
  have nYI : ¬ Ym C sc env ms I := by
    rintro ((q | q | ⟨y, _, q⟩) | q)
    · exact neX _ (.inl (F.tb _ q)) rfl
    · exact neX _ (.inl F.xl) q.symm
    · exact neX _ (.inl (F.xc _ _ q)) rfl
    · exact neX _ (.inr q) rfl
  have IB := H1.baseNone fr
  have hit' : ItAt (fun b => Xm X ms b ∨ b = I) (h1.push ob) I its 0 := hit
  have sub : ∀ b, Ym C sc env ms b → Xm X ms b := fun b q => q.elim (fun q => Yf_X F.fr b q) .inr
  have iL : I ≠ env.locals := Ne.symm (neX _ (.inl F.xl))
  have iC : ∀ y c, env.cells.lookup y = some c → c ≠ I := fun y c hc => neX _ (.inl (F.xc y c hc))
  refine codeAny_forLoop (fun m s' => ∃ i rest φ' ms' h' tk, s' = { s with heap := h', toks := tk } ∧ MFr C (fun b => X b ∨ b = I) sc env φ' ms' h' ∧ ItAt (fun b => Xm X ms b ∨ b = I) h' I its i ∧ (∀ j, its[i + j]? = rest[j]?) ∧ i + rest.length = its.length ∧
    Kp (fun b => Ym C sc env ms b ∨ b = I) s.heap h' ∧ P rest φ' ms' ∧ m = rest.length) ?_ its.length
    ⟨0, its, φ, ms, h1.push ob, tk1, rfl, Z2, hit', fun j => by rw [Nat.zero_add], Nat.zero_add _, (k1.mono fun b q => .inl (.inl (.inl q))).trans (.push _), h3, rfl⟩
  rintro m s' ⟨i, rest, φ', ms', h', tk, rfl, Z', it', hits, hlen, k', ef, rfl⟩
  have IB' := IB
  induction rest using List.casesOn with
  | nil =>
    refine it'.done (C := C) K.handled (by simpa using hlen) fun h'' kk => wpAny_execs_nil ?_
    refine fin φ' ms' h'' tk ef (Z'.letGo kk (fun b q => neX b (.inl q)) F.tb F.xl F.xc IB it'.nja F.bs) fun b o nb eb => ?_
    have bI : b ≠ I := by rintro rfl; have := k1 _ _ (fun q => nYI (.inl (.inl q))) eb; rw [fr] at this; cases this
    exact kk b o bI (k' b o (fun q => q.elim nb bI) eb)
  | cons d' rest =>
    have eX : Xm (fun b => X b ∨ b = I) ms' = fun b => Xm X ms b ∨ b = I := by
      rw [Xm_or]
      funext b
      refine propext (or_congr_left (or_congr_right ((hmd _ _ _ ef).2 b)))
    refine it'.item (C := C) (eX ▸ Z'.fr.st.x) (.inr rfl) (by have := hits 0; simpa using this) fun v h2 tk2 r2 it2 k2 => ?_
    have Z3 : MFr C (fun b => X b ∨ b = I) sc env φ' ms' h2 := Z'.other k2 (.inr rfl) IB it'.nja (itEx it2) iL iC
    refine MFr.bind (s := { s with heap := h2, toks := tk2 }) Z3 hx' (hmd _ _ _ ef).1 (by rw [eX]; exact r2) fun h3 tk3 Z4 k3 => ?_
    have sub' : ∀ b, Ym C sc env ms' b → Ym C sc env ms b := fun b q => q.imp id ((hmd _ _ _ ef).2 b).mp
    have it3 := it2.kp (k3.mono sub') (fun b q => .inl (sub b q)) nYI
    have k03 : Kp (fun b => Ym C sc env ms b ∨ b = I) s.heap h3 := (k'.trans (k2.mono fun b q => .inr q)).trans (k3.mono fun b q => .inl (sub' b q))
    refine turn d' rest φ' ms' ef _ _ Z4 (fun b q => .inl q) ⟨h3, tk3, rfl⟩ _ _ fun φ5 ms5 h5 tk5 P5 Z5 k5 => ?_
    refine ⟨rest.length, Nat.lt_succ_self _, i + 1, rest, φ5, ms5, h5, tk5, rfl, Z5, it3.kp k5 (fun b q => .inl (sub b q)) nYI, fun j => ?_, by simp only [List.length_cons] at hlen; omega, k03.trans (k5.mono fun b q => .inl q), P5, rfl⟩
    have := hits (j + 1)
    rw [List.getElem?_cons_succ] at this
    rw [← this]; congr 1; omega
end
end Mine
namespace Mine
open PySem PySem.Spec PySem.Calls PyProof.Rows PySem.W
set_option linter.unusedVariables false
set_option maxRecDepth 100000

/-- functions, cells, code records -/
noncomputable def Fxo (o : Obj) : Prop := (∃ fd, o.data = .func fd) ∨ (∃ v, o.data = .cell v) ∨ ∃ vs s t, o.data = .fields vs ∧ vs[1]? = some (.str s t)

section
variable {C : Cfg} {k : Nat} {sc : Sc} {env : Env} {φ : Ph} {A : Around} {X : Addr → Prop} {E : Value → Shared → Prop} {s : Shared} {h h' : Heap} {ms : Ms}
theorem fx_tb (H : HOk C h) {b : Addr} {o : Obj} (t : C.Tb b) (e : h.get? b = some o) : ¬ Fxo o := by
  obtain ⟨q, hq, rfl⟩ := t
  obtain ⟨ps, e2, tr, _⟩ := H.tabs q hq
  rw [e] at e2; cases e2
  rintro (⟨fd, x⟩ | ⟨v, x⟩ | ⟨vs, s, t, x, y⟩)
  · cases x
  · cases x
  · cases x
    rw [← Array.getElem?_toList] at y
    revert y
    generalize ps.toList = l at tr
    induction l using List.casesOn with
    | nil => intro y; simp at y
    | cons a l =>
      induction l using List.casesOn with
      | nil => intro y; simp at y
      | cons b l =>
        intro y
        simp only [List.getElem?_cons_succ, List.getElem?_cons_zero, Option.some.injEq] at y
        subst y
        cases l <;> cases a <;> simp [TriplesOk] at tr
theorem fx_list {vs : Array Value} {n : Nat} : ¬ Fxo (lstO vs n) := by
  rintro (⟨fd, x⟩ | ⟨v, x⟩ | ⟨vs, s, t, x, y⟩) <;> cases x

structure Clo (C : Cfg) (X : Addr → Prop) (h : Heap) (f : Addr) (fd : FuncData) (body : List Stmt) (φc : Ph) (vc : List (Str × Value)) : Prop where
  na : NestAt h f fd body
  hcx : ∀ y c, fd.closure.lookup y = some c → X c ∧ ¬ C.Tb c
  hcc : ∀ y c, fd.closure.lookup y = some c → ∃ v, h.IsCell c v
  hcl : ∀ y, fd.scope.names.lookup y = some .free → ∃ c, fd.closure.lookup y = some c
  hap : ∀ x y c, fd.closure.lookup x = some c → fd.closure.lookup y = some c → x = y
  hφ : ∀ y d, φc.lookup y = some d → okName y = true ∧ fd.scope.names.lookup y = some .free ∧ ∃ c v, fd.closure.lookup y = some c ∧ h.IsCell c (some v) ∧ Rp X h d v
  hv : ∀ y v, vc.lookup y = some v → okName y = true ∧ fd.scope.names.lookup y = some .free ∧ ∃ c, fd.closure.lookup y = some c ∧ h.IsCell c (some v)

theorem Clo.kp {Y : Addr → Prop} {f : Addr} {fd : FuncData} {body : List Stmt} {φc : Ph} {vc : List (Str × Value)} (x : Clo C X h f fd body φc vc) (k : Kp Y h h') (hY : ∀ b, Y b → X b) (n : ∀ b o, Y b → h.get? b = some o → ¬ Fxo o) : Clo C X h' f fd body φc vc := by
  have kf : ∀ b o, h.get? b = some o → Fxo o → h'.get? b = some o := fun b o e fx => k b o (fun q => n b o q e fx) e
  have kc : ∀ c v, h.IsCell c v → h'.IsCell c v := fun c v ⟨o, e, d⟩ => ⟨o, kf _ _ e (.inr (.inl ⟨_, d⟩)), d⟩
  refine ⟨⟨?_, x.na.co, x.na.gen, x.na.kind, x.na.body, x.na.gl, x.na.bl, ?_, x.na.nc⟩, x.hcx, fun y c e => let ⟨v, q⟩ := x.hcc y c e; ⟨v, kc _ _ q⟩, x.hcl, x.hap, fun y d e => ?_, fun y v e => ?_⟩
  · obtain ⟨o, e, d⟩ := x.na.ob; exact ⟨o, kf _ _ e (.inl ⟨_, d⟩), d⟩
  · obtain ⟨c, o, vs, t, e1, e2, e3, e4⟩ := x.na.cd
    exact ⟨c, o, vs, t, e1, kf _ _ e2 (.inr (.inr ⟨_, _, _, e3, e4⟩)), e3, e4⟩
  · obtain ⟨a, b, c, v, e1, e2, e3⟩ := x.hφ y d e
    exact ⟨a, b, c, v, e1, kc _ _ e2, e3.kp k hY⟩
  · obtain ⟨a, b, c, e1, e2⟩ := x.hv y v e
    exact ⟨a, b, c, e1, kc _ _ e2⟩
theorem Clo.grow {X' : Addr → Prop} {f : Addr} {fd : FuncData} {body : List Stmt} {φc : Ph} {vc : List (Str × Value)} (x : Clo C X h f fd body φc vc) (s : ∀ b o, h.get? b = some o → X' b → X b) (g : ∀ b, X b → X' b) : Clo C X' h f fd body φc vc :=
  ⟨x.na, fun y c e => ⟨g _ (x.hcx y c e).1, (x.hcx y c e).2⟩, x.hcc, x.hcl, x.hap, fun y d e => let ⟨a, b, c, v, e1, e2, e3⟩ := x.hφ y d e; ⟨a, b, c, v, e1, e2, e3.av s⟩, x.hv⟩

theorem freeName_ok {x : Str} {pos : Pos} {c : Addr} {v : Value} {Q : Value → Shared → Prop} (S : St C X sc env φ s.heap) (hx : sc.lookup x = some .free) (ok : okName x = true) (hc : env.cells.lookup x = some c) (hi : s.heap.IsCell c (some v)) (h : Q v s) :
    wpAny (model C.prog C.w) A (eval (.Name x pos) env) Q E s := by
  simp only [okName, Bool.and_eq_true, Bool.not_eq_true'] at ok
  refine wpAny_Name ?_ ok.1
  rcases S.e.kd x with hk | ⟨_, hk⟩
  · rw [hx] at hk; exact wpAny_loadName_free S.e.fn hk hc hi h ok.2
  · exact wpAny_loadName_cell S.e.fn hk hc hi h
theorem cellName_ok {x : Str} {pos : Pos} {c : Addr} {v : Value} {Q : Value → Shared → Prop} (S : St C X sc env φ s.heap) (hx : sc.lookup x = some .cell) (ok : okName x = true) (hc : env.cells.lookup x = some c) (hi : s.heap.IsCell c (some v)) (h : Q v s) :
    wpAny (model C.prog C.w) A (eval (.Name x pos) env) Q E s := by
  simp only [okName, Bool.and_eq_true, Bool.not_eq_true'] at ok
  refine wpAny_Name ?_ ok.1
  rcases S.e.kd x with hk | ⟨hk, _⟩
  · rw [hx] at hk; exact wpAny_loadName_cell S.e.fn hk hc hi h
  · rw [hx] at hk; cases hk

/-- a call whose callee is a function's object -/
theorem callF_ok {fe : Expr} {args : List Expr} {pos : Pos} {l : List D} {fa : Addr} {o : Obj} {fd : FuncData} {ff : Expr → Option D} {Q : Value → Shared → Prop} (K : Aok k A) (F : FOk C k X sc env φ ff) (S : St C X sc env φ s.heap)
    (hat : ∀ f p, fe = .Name f p → True) (hc : eval (.Call fe args [] pos) env = (do callWith pos (← eval fe env) [] (backTo pos (starEach args env)) [])) (ea : evs ff args = some l)
    (hf : ∀ Q : Value → Shared → Prop, Q (.ref fa) s → wpAny (model C.prog C.w) A (eval fe env) Q E s) (ho : s.heap.get? fa = some o) (hd : o.data = .func fd)
    (h : ∀ vs h' tk, HOk C h' → Kp C.Tb s.heap h' → RpL X h' l vs → wpAny (model C.prog C.w) A (call (.ref fa) vs) Q E { s with heap := h', toks := tk }) : wpAny (model C.prog C.w) A (eval (.Call fe args [] pos) env) Q E s := by
  rw [hc]
  refine wpAny_bind (hf _ ?_)
  refine callWith_of (P := fun h => ∃ o fd, h.get? fa = some o ∧ o.data = .func fd) (by rw [starred_none ea]; rfl) (fun h ⟨o, fd, e, d⟩ => ⟨.frame, .inl rfl, (Looks.ld (part := none) e).andThen (by rw [d]; exact .now)⟩) ?_
  have keep : ∀ h', Kp C.Tb s.heap h' → ∃ o fd, h'.get? fa = some o ∧ o.data = .func fd := fun h' k => ⟨o, fd, k _ _ (fun t => fx_tb S.H t ho (.inl ⟨_, hd⟩)) ho, hd⟩
  have body : wpAny (model C.prog C.w) A (spliced (backTo pos (starEach args env))) (fun vs s₁ => (∃ o fd, s₁.heap.get? fa = some o ∧ o.data = .func fd) ∧ wpAny (model C.prog C.w) A (call (.ref fa) ([] ++ vs) []) Q E s₁) E s := by
    refine evs_ok F K args l ea s _ E S fun vs h' tk H k1 r => ⟨keep h' k1, h vs h' tk H k1 r⟩
  induction args using List.casesOn with
  | nil =>
    obtain rfl := evs_nil ea
    exact evalArgs_nil3 ⟨⟨o, fd, ho, hd⟩, h [] s.heap s.toks S.H .refl (by simp only [RpL])⟩
  | cons e es =>
    have hs : starEach (e :: es) env = (false, eval e env) :: starEach es env := (evs_cons ea).1
    rw [hs] at body ⊢
    exact evalArgs_plain body

theorem exB_app {f : Ph → Stmt → Option Out} (F : SOk C k sc f) {b : List Stmt} {E : Value → Shared → Prop} {Q : Flow → Shared → Prop} {A : Around} {X : Addr → Prop} {env : Env} (K : Aok k A) : ∀ (a : List Stmt) (φ φ' : Ph) (s : Shared), exB f a φ = some (φ', none) → FrOk C X sc env φ s.heap →
    (∀ h' tk, FrOk C X sc env φ' h' → Kp (Yf C sc env) s.heap h' → wpAny (model C.prog C.w) A (execs b env) Q E { s with heap := h', toks := tk }) → wpAny (model C.prog C.w) A (execs (a ++ b) env) Q E s
  | [], φ, φ', s, e, Z, h => by
    simp only [exB, Option.some.injEq, Prod.mk.injEq, and_true] at e; subst e
    exact h s.heap s.toks Z .refl
  | st :: r, φ, φ', s, e, Z, h => by
    simp only [exB, Option.bind_eq_some_iff] at e
    obtain ⟨⟨φ1, r1⟩, h1, h2⟩ := e
    induction r1 using Option.casesOn with
    | some d => simp at h2
    | none =>
      rw [List.cons_append]
      exact wpAny_execs_cons (F φ st _ h1 A X env s _ E K Z fun h' tk Z' k' => exB_app F K r φ1 φ' _ h2 Z' fun h'' tk' Z'' k'' => h h'' tk' Z'' (k'.trans k''))

theorem RpL.set : ∀ {l : List D} {vs : List Value} {d : D} {v : Value} {j : Nat}, RpL X h l vs → Rp X h d v → RpL X h (l.set j d) (vs.set j v)
  | [], _, d, v, j, x, y => by simp only [RpL] at x; subst x; simp [RpL]
  | c :: l, _, d, v, 0, x, y => by
    simp only [RpL] at x
    obtain ⟨u, r, rfl, a, b⟩ := x
    simp only [List.set_cons_zero, RpL]
    exact ⟨v, r, rfl, y, b⟩
  | c :: l, _, d, v, j + 1, x, y => by
    simp only [RpL] at x
    obtain ⟨u, r, rfl, a, b⟩ := x
    simp only [List.set_cons_succ, RpL]
    exact ⟨u, _, rfl, a, RpL.set b y⟩

theorem nja_list {vs : Array Value} {n : Nat} {a : Addr} (e : h.get? a = some (lstO vs n)) : ¬ JA h a := nja_data e fun vs q => by cases q

/-- a list's item is set -/
theorem setList_ok {a : Addr} {l : List D} {j : Int} {t : Tok} {d : D} {v : Value} {Q : Unit → Shared → Prop} (H : HOk C s.heap) (hb : C.B.get? a = none) (xa : X a) (hl : HoldsL X s.heap a l) (r : Rp X s.heap d v) (h0 : 0 ≤ j) (h1 : j < l.length) (h2 : j < 1000000)
    (h : ∀ h', HOk C h' → Kp (fun b => b = a) s.heap h' → HoldsL X h' a (l.set j.toNat d) → Q () { s with heap := h' }) : wpAny (model C.prog C.w) A (setItem (.ref a) (.int j t) v) Q E s := by
  obtain ⟨vs, n, g, rl⟩ := hl
  have hs := rl.length
  simp only [Array.length_toList] at hs
  refine ki_setAt (n := n) g h0 (by omega) (by omega) ?_
  have sb := Heap.SameBut.update s.heap a (Obj.mapSeq (·.setIfInBounds j.toNat v))
  have g' := Heap.get?_update_self (Obj.mapSeq (·.setIfInBounds j.toNat v)) g (by rfl)
  have kk : Kp (fun b => b = a) s.heap (s.heap.update a (Obj.mapSeq (·.setIfInBounds j.toNat v))) := .same sb rfl
  refine h _ (H.same sb hb (nja_list g)) kk ⟨_, _, g', ?_⟩
  have := (rl.set (j := j.toNat) r).kp kk (fun b q => q ▸ xa)
  simpa using this
end
end Mine
namespace Mine
open PySem PySem.Spec PySem.Calls PyProof.Rows PySem.W
set_option linter.unusedVariables false
set_option maxRecDepth 100000

set_option genInjectivity false in
set_option genSizeOfSpec false in
/-- the shape of the nested def that lays the figures -/
structure In1 where
  t : Expr
  ip : Pos
  lx : Str
  lxp : Pos
  li : Expr
  sp : Pos
  xx : Str
  xp : Pos
  ap : Pos
  rp : Pos
  pre : List Stmt
  fx : Str
  f1p : Pos
  a1 : List Expr
  c1p : Pos
  e1p : Pos
  f2p : Pos
  a2 : List Expr
  c2p : Pos
  e2p : Pos
noncomputable def In1.body (I : In1) : List Stmt :=
  .If I.t [.Assign [.Subscript (.Name I.lx I.lxp) I.li I.sp] (.Name I.xx I.xp) I.ap, .Return none I.rp] [] I.ip ::
    (I.pre ++ [.Expr (.Call (.Name I.fx I.f1p) I.a1 [] I.c1p) I.e1p, .Expr (.Call (.Name I.fx I.f2p) I.a2 [] I.c2p) I.e2p])

noncomputable def dig (G : Fn) (N : Nat) (sc : Sc) (ps : List Str) (φc : Ph) (I : In1) : Nat → List D → List D → Option (List D)
  | 0, _, _ => none
  | m + 1, ds, l =>
    (ev G N sc (ps.zip ds ++ φc) I.t).bind fun c => (truthD c).bind fun b => if b then
       (ev G N sc (ps.zip ds ++ φc) (.Name I.xx I.xp)).bind fun dx => (ev G N sc (ps.zip ds ++ φc) I.li).bind fun i => match i with
         | .int j => if decide (0 ≤ j) && decide (j < l.length) && decide (j < 1000000) then some (l.set j.toNat dx) else none
         | _ => none
     else (exB (exS G N N sc) I.pre (ps.zip ds ++ φc)).bind fun o => match o.2 with
       | some _ => none
       | none => (evs (ev G N sc o.1) I.a1).bind fun d1 => (evs (ev G N sc o.1) I.a2).bind fun d2 => (dig G N sc ps φc I m d1 l).bind (dig G N sc ps φc I m d2)

section
variable {C : Cfg} {k : Nat} {G : Fn} {N : Nat} {sc : Sc} {ps : List Str} {φc : Ph} {I : In1}

theorem inner1_ok (CO : CfgOk C) (GO : GOk C k G) (hnd : ps.Nodup) (hps : ∀ p ∈ ps, okName p = true ∧ sc.lookup p = some .local) {f L : Addr} {fd : FuncData} {vc : List (Str × Value)} (hsc : fd.scope.names = sc)
    (hfx : vc.lookup I.fx = some (.ref f)) (hlx : vc.lookup I.lx = some (.ref L)) (hb : ∀ vs : List Value, vs.length = ps.length → bindArgs fd ⟨vs, []⟩ = pure (ps.zip vs)) (hbL : C.B.get? L = none) :
    ∀ m ds l l', dig G N sc ps φc I m ds l = some l' → ds.length = ps.length → ∀ (A : Around) (X : Addr → Prop) (s : Shared) (Q E : Value → Shared → Prop) (vs : List Value), Aok (k + m) A → HOk C s.heap → XOk C X s.heap → X L → HoldsL X s.heap L l →
    Clo C X s.heap f fd I.body φc vc → RpL X s.heap ds vs → (I.a1.length = ps.length ∧ I.a2.length = ps.length) →
    (∀ h' tk, HOk C h' → Kp (fun b => C.Tb b ∨ b = L) s.heap h' → HoldsL X h' L l' → Q .none { s with heap := h', toks := tk }) → wpAny (model C.prog C.w) A (call (.ref f) vs) Q E s := by
  intro m
  induction m with
  | zero => intro ds l l' e; simp [dig] at e
  | succ m ih =>
    intro ds l l' e hds A X s Q E vs K H x xL hl CL r hal h
    have EV := ev_ok CO GO N
    refine enterN_ok (k := k + m) CO CL.na hnd (hsc ▸ hps) K H x r (hb vs (by rw [r.length, hds])) CL.hcx CL.hcl CL.hap CL.hφ fun env s' hs kp fr F hcells => ?_
    rw [hsc] at F
    obtain ⟨h0, tk0, rfl⟩ := hs
    dsimp only at kp
    have Km : Aok (k + m) (A.deeper env) := K.deeper
    have Kk : Aok k (A.deeper env) := Km.mono (by omega)
    obtain ⟨vsL, nL, gL, rL⟩ := hl
    have neL : L ≠ env.locals := fun q => by rw [q, fr] at gL; cases gL
    have av : ∀ b o, s.heap.get? b = some o → (X b ∨ b = env.locals) → X b := fun b o e q => q.elim id fun q => by subst q; rw [fr] at e; cases e
    -- what lies in the heap before a change of the list
    have CL0 : Clo C (fun b => X b ∨ b = env.locals) h0 f fd I.body φc vc := (CL.grow (X' := fun b => X b ∨ b = env.locals) av fun b q => .inl q).kp (Y := fun _ => False) (fun b o _ e => kp b o e) (fun _ q => q.elim) fun _ _ q => q.elim
    have HL0 : HoldsL (fun b => X b ∨ b = env.locals) h0 L l := ⟨vsL, nL, kp _ _ gL, (rL.av (X' := fun b => X b ∨ b = env.locals) av).kp (Y := fun _ => False) (fun b o _ e => kp b o e) fun _ q => q.elim⟩
    have nYL : ¬ Yf C sc env L := by
      rintro (q | q | ⟨y, q, _⟩)
      · obtain ⟨q0, hq0, rfl⟩ := q
        obtain ⟨ps', e2, _⟩ := H.tabs q0 hq0
        rw [gL] at e2; cases e2
      · exact neL q
      · rw [← hsc] at q; exact absurd rfl (CL.na.nc _ (mem_lookup q))
    have yfx : ∀ {h' φ'}, FrOk C (fun b => X b ∨ b = env.locals) sc env φ' h' → ∀ b o, Yf C sc env b → h'.get? b = some o → ¬ Fxo o := fun {h' φ'} F' b o q e => by
      rcases q with q | q | ⟨y, q, _⟩
      · exact fx_tb F'.st.H q e
      · obtain ⟨mm, o', es, ep, e2, d2, _⟩ := F'.ns
        rw [q, e2] at e; cases e
        rintro (⟨fd, x⟩ | ⟨v, x⟩ | ⟨vs, s, t, x, y⟩) <;> rw [d2] at x <;> cases x
      · rw [← hsc] at q; exact absurd rfl (CL.na.nc _ (mem_lookup q))
    -- how a turn ends
    have back : ∀ h' tk, HOk C h' → Kp (fun b => Yf C sc env b ∨ b = L) h0 h' → HoldsL (fun b => X b ∨ b = env.locals) h' L l' → Q .none { s with heap := h', toks := tk } := fun h' tk H' k' hl' => by
      refine h h' tk H' (fun b o nb eb => k' b o ?_ (kp b o eb)) ?_
      · rintro ((q | q | ⟨y, q, _⟩) | q)
        · exact nb (.inl q)
        · rw [q, fr] at eb; cases eb
        · rw [← hsc] at q; exact absurd rfl (CL.na.nc _ (mem_lookup q))
        · exact nb (.inr q)
      · obtain ⟨ws, n, g, r⟩ := hl'
        exact ⟨ws, n, g, r.av fun b o _ q => .inl q⟩
    simp only [dig, Option.bind_eq_some_iff] at e
    obtain ⟨c, h1, b, h2, e⟩ := e
    show wpAny _ _ (execs (_ :: _) env) _ _ _
    refine wpAny_execs_cons (wpAny_If (EV.2 _ sc env _ I.t c b h1 h2 _ _ _ _ Kk F.st fun h1 tk1 H1 k1 => ?_))
    have F1 := F.kp H1 k1
    induction b using Bool.casesOn with
    | true =>
      simp only [if_true, Option.bind_eq_some_iff] at e ⊢
      obtain ⟨dx, h3, i, h4, e⟩ := e
      cases i <;> try (simp only [reduceCtorEq] at e)
      rename_i j
      split at e
      · rename_i hj
        cases e
        simp only [Bool.and_eq_true, decide_eq_true_eq] at hj
        refine wpAny_execs_cons (wpAny_Assign_Subscript (EV.1 _ sc env _ _ dx h3 _ _ _ _ Kk F1.st fun v h2 tk2 H2 k2 r2 => ?_) rfl)
        have F2 := F1.kp H2 k2
        have CL2 := (CL0.kp (k1.trans k2) F.st.x.tb fun b o q e => fx_tb F.st.H q e)
        obtain ⟨okl, frl, cl, hcl, hil⟩ := CL2.hv _ _ hlx
        rw [hsc] at frl
        refine freeName_ok (s := { s with heap := h2, toks := tk2 }) F2.st frl okl (by rw [hcells]; exact hcl) hil ?_
        refine EV.1 _ sc env _ _ _ h4 _ _ _ _ Kk F2.st fun u h3 tk3 H3 k3 r3 => ?_
        obtain ⟨t, rfl⟩ := r3.int_inv
        have k03 := (k1.trans k2).trans k3
        refine setList_ok (s := { s with heap := h3, toks := tk3 }) (X := fun b => X b ∨ b = env.locals) H3 hbL (.inl xL) (HL0.kp k03 F.st.x.tb fun q => nYL (.inl q)) (r2.kp k3 F.st.x.tb) hj.1.1 hj.1.2 hj.2 fun h4 H4 k4 hl4 => ?_
        refine wpAny_execs_cons (wpAny_Return_none ?_)
        exact back h4 tk3 H4 ((k03.mono fun b q => .inl (.inl q)).trans (k4.mono fun b q => .inr q)) hl4
      · cases e
    | false =>
      simp only [Bool.false_eq_true, if_false, Option.bind_eq_some_iff] at e ⊢
      obtain ⟨⟨φ1, r1⟩, h3, e⟩ := e
      induction r1 using Option.casesOn with
      | some d => simp at e
      | none =>
        simp only [Option.bind_eq_some_iff] at e
        obtain ⟨d1, h4, d2, h5, lm, h6, h7⟩ := e
        refine wpAny_execs_nil ?_
        refine exB_app (exS_ok CO GO N N sc) Kk I.pre _ φ1 _ h3 F1 fun h2 tk2 F2 k2 => ?_
        have k02 : Kp (Yf C sc env) h0 h2 := k1.yf.trans k2
        have hint : interactive env = false := by unfold interactive; rw [F.st.e.fn]; rfl
        have CL2 := CL0.kp k02 (Yf_X F) (yfx F)
        have HL2 := HL0.kp k02 (Yf_X F) nYL
        obtain ⟨okf, frf, cf, hcf, hif⟩ := CL2.hv _ _ hfx
        rw [hsc] at frf
        obtain ⟨o, ho, hd⟩ := CL2.na.ob
        refine wpAny_execs_cons (wpAny_Expr_any ?_ hint rfl)
        refine callF_ok (s := { s with heap := h2, toks := tk2 }) Kk (EV.1 _ sc env φ1) F2.st (fun _ _ _ => trivial) rfl h4 (fun Q' hq => freeName_ok (s := { s with heap := h2, toks := tk2 }) F2.st frf okf (by rw [hcells]; exact hcf) hif hq) ho hd fun vs1 h3 tk3 H3 k3 r3 => ?_
        have F3 := F2.kp H3 k3
        have CL3 := CL2.kp k3 F2.st.x.tb fun b o q e => fx_tb F2.st.H q e
        have HL3 := HL2.kp k3 F2.st.x.tb fun q => nYL (.inl q)
        refine ih d1 l lm h6 (by rw [evs_len h4, hal.1]) _ _ { s with heap := h3, toks := tk3 } _ _ vs1 Km H3 F3.st.x (.inl xL) HL3 CL3 r3 hal fun h4' tk4 H4 k4 hl4 => ?_
        have exL : ∃ o, h4'.get? L = some o := let ⟨_, _, e, _⟩ := hl4; ⟨_, e⟩
        have ncL : ∀ y c, env.cells.lookup y = some c → c ≠ L := fun y c hc q => by
          rw [hcells] at hc
          obtain ⟨v, o, e1, d1⟩ := CL3.hcc y c hc
          obtain ⟨_, _, e2, _⟩ := HL3
          rw [q, e2] at e1; cases e1
          cases d1
        have F4 := F3.chg H4 k4 (.inl xL) exL neL ncL
        have lfx : ∀ b o, (C.Tb b ∨ b = L) → h3.get? b = some o → ¬ Fxo o := fun b o q e => by
          rcases q with q | q
          · exact fx_tb H3 q e
          · obtain ⟨_, _, e2, _⟩ := HL3
            rw [q, e2] at e; cases e
            exact fx_list
        have CL4 := CL3.kp k4 (fun b q => by rcases q with q | q; exact F3.st.x.tb b q; exact q ▸ .inl xL) lfx
        obtain ⟨okf, frf, cf, hcf, hif⟩ := CL4.hv _ _ hfx
        rw [hsc] at frf
        obtain ⟨o, ho, hd⟩ := CL4.na.ob
        refine wpAny_execs_cons (wpAny_Expr_any ?_ hint rfl)
        refine callF_ok (s := { s with heap := h4', toks := tk4 }) Kk (EV.1 _ sc env φ1) F4.st (fun _ _ _ => trivial) rfl h5 (fun Q' hq => freeName_ok (s := { s with heap := h4', toks := tk4 }) F4.st frf okf (by rw [hcells]; exact hcf) hif hq) ho hd fun vs2 h5' tk5 H5 k5 r5 => ?_
        have F5 := F4.kp H5 k5
        have CL5 := CL4.kp k5 F4.st.x.tb fun b o q e => fx_tb F4.st.H q e
        have HL5 := hl4.kp k5 F4.st.x.tb fun q => nYL (.inl q)
        refine ih d2 lm l' h7 (by rw [evs_len h5, hal.2]) _ _ { s with heap := h5', toks := tk5 } _ _ vs2 Km H5 F5.st.x (.inl xL) HL5 CL5 r5 hal fun h6 tk6 H6 k6 hl6 => ?_
        refine wpAny_execs_nil ?_
        refine back h6 tk6 H6 ?_ hl6
        exact ((((k02.trans k3.yf).mono fun b q => .inl q).trans (k4.mono fun b q => q.imp .inl id)).trans (k5.mono fun b q => .inl (.inl q))).trans (k6.mono fun b q => q.imp .inl id)
end
end Mine
namespace Mine
open PySem PySem.Spec PySem.Calls PyProof.Rows PySem.W
set_option linter.unusedVariables false
set_option maxRecDepth 100000

/-- what the base heap says of the tables -/
structure TbsOk (C : Cfg) : Prop where
  hd : ∀ q ∈ C.tabs, CodeHd C.B q.1 q.2.1
  no : ∀ q ∈ C.tabs, C.B.get? q.2.1 = none
  one : ∀ q ∈ C.tabs, ∀ q' ∈ C.tabs, q.2.1 = q'.2.1 → q = q'
  bm : ∃ bm ob, C.mg "__builtins__" = some (.ref bm) ∧ bm ≠ builtinsNs ∧ bm ≠ mainGlobals ∧ C.B.get? bm = some ob ∧ ob.cls = .type "module" ∧ ob.dict = some builtinsNs ∧ ob.data = .plain

section
variable {C : Cfg} {k : Nat} {sc : Sc} {env : Env} {φ : Ph} {A : Around} {X : Addr → Prop} {E : Value → Shared → Prop} {s : Shared} {h h' : Heap} {ms : Ms}

theorem mkDef_ok {name qual : Str} {params : Arguments} {body : List Stmt} {scope : Scope} {pos : Pos} {c P : Addr} {Q : Flow → Shared → Prop} (CO : CfgOk C) (TO : TbsOk C) (F : FrOk C X sc env φ s.heap) (hq : (c, P, pos, qual) ∈ C.tabs) (hcode : env.code = .ref c)
    (hqual : qualnameIn env name name = qual) (hd0 : params.defaults = []) (hk0 : params.kw_defaults = []) (ha : annTrees params none env = []) (hcl : ∀ p ∈ scope.names, p.2 = .free → (sc.lookup p.1 = some .cell ∨ sc.lookup p.1 = some .free)) (hx : kindSt sc name = true)
    (hco : scope.isCoroutine = false) (hgen : scope.isGenerator = false) (hkind : scope.kind = .function) (hnc : ∀ x ∈ scope.names, x.2 ≠ .cell)
    (h : ∀ f cdv ctv doc pm h' tk, FrOk C X sc env (setA name (.adr f) φ) h' → Kp (Yf C sc env) s.heap h' → s.heap.get? f = none → NestAt h' f (fnX name qual params body scope (clOf env scope.names []) .none .none doc pm none cdv ctv) body → Q .next { s with heap := h', toks := tk }) :
    wpAny (model C.prog C.w) A (exec (.FunctionDef name params body [] none [] scope none name pos) env) Q E s := by
  have H := F.st.H
  have hclo : closureFor scope env = pure (clOf env scope.names []) := closure_eq fun p hp hk => F.st.e.cl p.1 (hcl p hp hk)
  obtain ⟨ps, hP, tr, alt⟩ := H.tabs _ hq
  dsimp only at hP alt
  have hB : C.B.get? P = none := TO.no _ hq
  have cd : CodeHd s.heap c P := (TO.hd _ hq).keeps H.base
  have hg := CO.g.keeps H.base
  have hgP : mainGlobals ≠ P := fun q => by
    obtain ⟨o, es, ep, e, _⟩ := CO.g
    rw [q, hB] at e; cases e
  obtain ⟨bm, ob, b1, b2, b2', b3, b4, b5, b6⟩ := TO.bm
  have hbP : bm ≠ P := fun q => by rw [q, hB] at b3; cases b3
  have BA : s.heap.BuiltinsAt C.mg P := ⟨bm, ob, b1, b2, b2', hbP, H.base _ _ b3, b4, b5, b6⟩
  have fin : ∀ (f : Addr) (cdv ctv doc pm : Value) (h1 : Heap) (tk : Nat), f = h1.objs.size → HOk C (h1.push { cls := .type "function", data := .func (fnX name qual params body scope (clOf env scope.names []) .none .none doc pm none cdv ctv) }) → s.heap.objs.size ≤ h1.objs.size →
      Kp C.Tb s.heap (h1.push { cls := .type "function", data := .func (fnX name qual params body scope (clOf env scope.names []) .none .none doc pm none cdv ctv) }) → h1.CodeRec cdv qual →
      wpAny (model C.prog C.w) A (storeName env name (.ref f)) (fun _ s'' => Q .next s'') E { s with heap := h1.push { cls := .type "function", data := .func (fnX name qual params body scope (clOf env scope.names []) .none .none doc pm none cdv ctv) }, toks := tk } := by
    intro f cdv ctv doc pm h1 tk hf H' hsz k' hrec
    have F' := F.kp H' k'
    refine store_ok (d := .adr f) (s := { s with heap := _, toks := tk }) F' hx (by simp only [Rp]) fun h2 tk2 F2 k2 => ?_
    have k2' : Kp (Yf C sc env) _ h2 := k2.mono fun b q => .inr q
    have fr : s.heap.get? f = none := Heap.get?_none_of_le (by rw [hf]; exact hsz)
    have nY : ¬ Yf C sc env f := fun q => by obtain ⟨o, e⟩ := F.st.x.ex _ (Yf_X F _ q); rw [fr] at e; cases e
    have nfx : ∀ b o, Yf C sc env b → (h1.push { cls := .type "function", data := .func (fnX name qual params body scope (clOf env scope.names []) .none .none doc pm none cdv ctv) }).get? b = some o → ∀ vs s t, o.data = .fields vs → vs[1]? ≠ some (.str s t) := fun b o q e vs s t d1 d2 => by
      rcases q with q | q | ⟨y, hy, q⟩
      · exact fx_tb H' q e (.inr (.inr ⟨vs, s, t, d1, d2⟩))
      · obtain ⟨mm, o', es, ep, e2, d3, _⟩ := F'.ns
        rw [q, e2] at e; cases e
        rw [d3] at d1; cases d1
      · obtain ⟨c, v, a1, ⟨o', e2, d3⟩, _⟩ := F'.cx y hy
        rw [a1] at q; cases q
        rw [e2] at e; cases e
        rw [d3] at d1; cases d1
    refine h f cdv ctv doc pm h2 tk2 F2 (k'.yf.trans k2') fr ⟨⟨_, k2' _ _ nY (by rw [hf]; exact Heap.get?_push_size _ rfl), rfl⟩, hco, hgen, hkind, rfl, rfl, rfl, ?_, hnc⟩
    obtain ⟨cc, oc, vs, t, e1, e2, e3, e4⟩ := hrec
    have e2' := Heap.get?_push_of_some { cls := .type "function", data := .func (fnX name qual params body scope (clOf env scope.names []) .none .none doc pm none cdv ctv) } e2
    exact ⟨cc, oc, vs, t, e1, k2' _ _ (fun q => nfx _ _ q e2' _ _ _ e3 e4) e2', e3, e4⟩
  refine nestDef_K hd0 hk0 ha ?_
  rw [hqual]
  rcases alt with hnf | ⟨c', hf, hrec⟩
  · refine makeFunction_K (mg := C.mg) hclo F.st.e.gl hg hcode cd hP tr hnf hgP BA fun c' ctv doc h1 tk hx1 hge hlt hrec htb => ?_
    refine fin _ (.ref c') ctv doc _ h1 tk rfl (HOk.push ⟨fun b o e => hx1 b o (fun q => by rw [q, hB] at e; cases e) (H.base b o e), fun q' hq' => ?_⟩ _) (Nat.le_of_lt (Nat.lt_of_le_of_lt hge hlt)) ?_ hrec
    · by_cases w : q'.2.1 = P
      · have := TO.one _ hq' _ hq w
        subst this
        refine ⟨_, htb, ?_, .inr ⟨c', ?_, hrec⟩⟩
        · rw [Array.toList_append]; exact TriplesOk_snoc _ _ _ _ tr
        · rw [Array.toList_append]; exact codeAmong_snoc _ tr hnf
      · obtain ⟨ps', e1, e2, e3⟩ := H.tabs _ hq'
        refine ⟨ps', hx1 _ _ w e1, e2, e3.imp id fun ⟨c2, a, c3, o, vs, t, r1, r2, r3, r4⟩ => ⟨c2, a, c3, o, vs, t, r1, hx1 _ _ (fun q => ?_) r2, r3, r4⟩⟩
        exact fx_tb H ⟨_, hq, q.symm⟩ r2 (.inr (.inr ⟨_, _, _, r3, r4⟩))
    · exact (show Kp C.Tb s.heap h1 from fun b o nb e => hx1 b o (fun q => nb ⟨_, hq, q.symm⟩) e).trans (.push _)
  · refine makeFunction_hit (mg := C.mg) hclo F.st.e.gl hg hcode cd hP tr hf BA fun ctv doc h1 tk hk1 hsz => ?_
    exact fin _ (.ref c') ctv doc _ h1 tk rfl ((H.keeps hk1).push _) hsz ((Kp.of hk1).trans (.push _)) (by
      obtain ⟨c3, o, vs, t, r1, r2, r3, r4⟩ := hrec
      exact ⟨c3, o, vs, t, r1, hk1 _ _ r2, r3, r4⟩)
end
end Mine
namespace Mine
open PySem PySem.Spec PySem.Calls PyProof.Rows PySem.W
set_option linter.unusedVariables false
set_option maxRecDepth 100000

noncomputable def scalar : D → Bool
  | .none => true
  | .bool _ => true
  | .int _ => true
  | _ => false

section
variable {C : Cfg} {k : Nat} {sc : Sc} {env : Env} {φ : Ph} {A : Around} {X : Addr → Prop} {E : Value → Shared → Prop} {s : Shared} {h h' : Heap} {ms : Ms}

theorem Rp.scalar {X X' : Addr → Prop} {h h' : Heap} : ∀ {d : D} {v : Value}, Mine.scalar d = true → Rp X h d v → Rp X' h' d v
  | .none, _, _, x => x
  | .bool _, _, _, x => x
  | .int _, _, _, x => x
  | .adr _, _, e, _ => by simp [Mine.scalar] at e
  | .tup _, _, e, _ => by simp [Mine.scalar] at e
  | .lst _, _, e, _ => by simp [Mine.scalar] at e
  | .rng _ _, _, e, _ => by simp [Mine.scalar] at e
  | .dct .., _, e, _ => by simp [Mine.scalar] at e
  | .itm .., _, e, _ => by simp [Mine.scalar] at e
theorem RpL.scalar {X X' : Addr → Prop} {h h' : Heap} : ∀ {l : List D} {vs : List Value}, l.all Mine.scalar = true → RpL X h l vs → RpL X' h' l vs
  | [], _, _, x => x
  | d :: l, _, e, x => by
    simp only [RpL] at x ⊢
    simp only [List.all_cons, Bool.and_eq_true] at e
    obtain ⟨v, r, e1, a, b⟩ := x
    exact ⟨v, r, e1, a.scalar e.1, RpL.scalar e.2 b⟩

/-- all that is there is shunned -/
noncomputable def Old (h : Heap) (b : Addr) : Prop := ∃ o, h.get? b = some o
theorem FrOk.old (F : FrOk C X sc env φ h) (e : ∀ x d, φ.lookup x = some d → scalar d = true) : FrOk C (Old h) sc env φ h := by
  have z := F.st.e
  have sub : ∀ b, X b → Old h b := F.st.x.ex
  refine ⟨⟨F.st.H, ⟨fun b q => sub b (F.st.x.tb b q), fun b q => q, fun b o q => sub b (F.st.x.bs b o q)⟩, ⟨z.fn, z.gl, z.bl, z.nl, sub _ z.xl, z.nc, fun y c q => sub _ (z.xc y c q), z.kd, z.cl, fun y d q => ?_⟩⟩, F.ns, F.lB, F.cx, F.ap⟩
  obtain ⟨h1, h2, v, rv, w⟩ := z.ld y d q
  exact ⟨h1, h2, v, rv.scalar (e y d q), w⟩

/-- a new object joins X, the tables may have grown -/
theorem FrOk.growT {I : Addr} (F : FrOk C X sc env φ h) (fr : h.get? I = none) (k : Kp C.Tb h h') (H : HOk C h') (ex : ∃ o, h'.get? I = some o) : FrOk C (fun b => X b ∨ b = I) sc env φ h' := by
  have av : ∀ b o, h.get? b = some o → (X b ∨ b = I) → X b := fun b o e q => q.elim id fun q => by subst q; rw [fr] at e; cases e
  have e1 := (F.st.e.av av fun b q => .inl q).kp (fun b q => .inl (F.st.x.tb b q)) k
  have S2' := F.kp H k
  refine ⟨⟨H, ⟨fun b q => .inl (F.st.x.tb b q), fun b q => ?_, fun b o q => .inl (F.st.x.bs b o q)⟩, e1⟩, S2'.ns, S2'.lB, S2'.cx, S2'.ap⟩
  rcases q with q | q
  · exact S2'.st.x.ex b q
  · exact q ▸ ex

theorem clOf_mem {env : Env} {y : Str} {c : Addr} : ∀ (names : Sc) (acc : List (Str × Addr)), (clOf env names acc).lookup y = some c → (y, NameKind.free) ∈ names ∨ ∃ c, acc.lookup y = some c
  | [], acc, e => .inr ⟨c, e⟩
  | (n, kd) :: r, acc, e => by
    unfold clOf at e
    split at e
    · rename_i hk
      rcases clOf_mem r _ e with q | ⟨c', q⟩
      · exact .inl (List.mem_cons_of_mem _ q)
      · rw [List.lookup_cons] at q
        by_cases w : y = n
        · subst w
          rw [show kd = .free from by simpa using hk]
          exact .inl List.mem_cons_self
        · rw [beq_eq_false_iff_ne.mpr w] at q
          exact .inr ⟨c', q⟩
    · exact (clOf_mem r _ e).imp (List.mem_cons_of_mem _) id

theorem clo_of {f : Addr} {fd : FuncData} {body : List Stmt} {φc : Ph} {vc : List (Str × Value)} (F : FrOk C X sc env φ h) (na : NestAt h f fd body) (hc : fd.closure = clOf env fd.scope.names [])
    (hcl : ∀ p ∈ fd.scope.names, p.2 = .free → sc.lookup p.1 = some .cell ∧ fd.scope.names.lookup p.1 = some .free)
    (hφ : ∀ y d, φc.lookup y = some d → fd.scope.names.lookup y = some .free ∧ φ.lookup y = some d) (hv : ∀ y v, vc.lookup y = some v → fd.scope.names.lookup y = some .free ∧ ∃ a, v = .ref a ∧ φ.lookup y = some (.adr a)) : Clo C X h f fd body φc vc := by
  have pre : ∀ p ∈ fd.scope.names, p.2 = .free → ∃ c, env.cells.lookup p.1 = some c := fun p hp hk => F.st.e.cl p.1 (.inl (hcl p hp hk).1)
  have snd : ∀ y c, fd.closure.lookup y = some c → env.cells.lookup y = some c := fun y c e => clOf_sound fd.scope.names [] pre (fun _ _ q => by cases q) y c (hc ▸ e)
  have has : ∀ y, fd.scope.names.lookup y = some .free → ∃ c, fd.closure.lookup y = some c := fun y e => by rw [hc]; exact clOf_has fd.scope.names [] y (.inl (mem_lookup e))
  have get : ∀ y d, fd.scope.names.lookup y = some .free → φ.lookup y = some d → okName y = true ∧ ∃ c v, fd.closure.lookup y = some c ∧ h.IsCell c (some v) ∧ Rp X h d v := fun y d hf e => by
    obtain ⟨h1, h2, v, rv, w⟩ := F.st.e.ld y d e
    have hcell := (hcl _ (mem_lookup hf) rfl).1
    dsimp only at hcell
    rcases w with ⟨w, _⟩ | ⟨_, c, w1, w2⟩
    · rw [hcell] at w; cases w
    · obtain ⟨c', hc'⟩ := has y hf
      have := snd y c' hc'
      rw [w1] at this; cases this
      exact ⟨by simp [okName, h1, h2], c, v, hc', w2, rv⟩
  refine ⟨na, fun y c e => ⟨F.st.e.xc _ _ (snd y c e), F.st.e.nc _ _ (snd y c e)⟩, fun y c e => ?_, has, fun x y c h1 h2 => F.ap x y c (snd _ _ h1) (snd _ _ h2), fun y d e => ?_, fun y v e => ?_⟩
  · have hm : (y, NameKind.free) ∈ fd.scope.names := by
      rcases clOf_mem fd.scope.names [] (hc ▸ e) with q | ⟨_, q⟩
      · exact q
      · cases q
    obtain ⟨c', v, e1, e2, _⟩ := F.cx y (hcl _ hm rfl).1
    rw [snd y c e] at e1; cases e1
    exact ⟨v, e2⟩
  · obtain ⟨a, b⟩ := hφ y d e
    obtain ⟨ok, c, v, e1, e2, e3⟩ := get y d a b
    exact ⟨ok, a, c, v, e1, e2, e3⟩
  · obtain ⟨a, ad, rfl, b⟩ := hv y v e
    obtain ⟨ok, c, v, e1, e2, e3⟩ := get y _ a b
    simp only [Rp] at e3; subst e3
    exact ⟨ok, a, c, e1, e2⟩
end

set_option genInjectivity false in
set_option genSizeOfSpec false in
/-- the shape of the def that lays the figures -/
structure In0 where
  dx : Str
  dxp : Pos
  e0 : Expr
  p0 : Pos
  nm : Str
  params : Arguments
  I : In1
  scope : Scope
  dp : Pos
  t : Expr
  fp : Pos
  args : List Expr
  cp : Pos
  ep : Pos
  ip : Pos
  rp1 : Pos
  rp2 : Pos
noncomputable def In0.body (J : In0) : List Stmt :=
  [.Assign [.Name J.dx J.dxp] J.e0 J.p0, .FunctionDef J.nm J.params J.I.body [] none [] J.scope none J.nm J.dp, .If J.t [.Expr (.Call (.Name J.nm J.fp) J.args [] J.cp) J.ep] [] J.ip, .Return (some (.Name J.dx J.rp1)) J.rp2]

noncomputable def i2d (G : Fn) (N : Nat) (sc : Sc) (ps ips : List Str) (J : In0) (m : Nat) (ds : List D) : Option D :=
  (ev G N sc (ps.zip ds) J.e0).bind fun d0 => match d0 with
    | .lst l0 => if l0.all scalar then
        (ev G N sc (ps.zip ds) J.t).bind fun c => (truthD c).bind fun b => if b then
          (evs (ev G N sc ((J.dx, .lst l0) :: ps.zip ds)) J.args).bind fun d1 => if solidL d1 then (dig G N J.scope.names ips (keepFree J.scope.names (ps.zip ds)) J.I m d1 l0).map .lst else none
        else some (.lst l0)
      else none
    | _ => none

/-- what is looked up of the shape, once -/
noncomputable def In0.ok (J : In0) (sc : Sc) (ps ips : List Str) : Bool :=
  !ps.contains J.dx && !ps.contains J.nm && !(J.dx == J.nm) && kindSt sc J.dx && kindSt sc J.nm && sc.lookup J.dx == some .cell && sc.lookup J.nm == some .cell && J.I.fx == J.nm && J.I.lx == J.dx
    && J.scope.names.lookup J.dx == some .free && J.scope.names.lookup J.nm == some .free && J.scope.names.all (fun p => p.2 != .cell && (p.2 != .free || (sc.lookup p.1 == some .cell && J.scope.names.lookup p.1 == some .free)))
    && decide ips.Nodup && ips.all (fun p => okName p && J.scope.names.lookup p == some .local) && decide (J.I.a1.length = ips.length) && decide (J.I.a2.length = ips.length) && decide (J.args.length = ips.length)
    && !J.scope.isCoroutine && !J.scope.isGenerator && (J.scope.kind == .function)

section
variable {C : Cfg} {k : Nat} {G : Fn} {N m : Nat}

theorem i2d_ok {a c P : Addr} {fd : FuncData} {J : In0} {ps ips : List Str} {ds : List D} {r : D} (CO : CfgOk C) (TO : TbsOk C) (GO : GOk C k G) (DA : DefAt C a fd J.body) (hsc : defSc fd.scope.names ps = true) (hJ : J.ok fd.scope.names ps ips = true) (hds : ds.length = ps.length) (hsd : ds.all scalar = true)
    (hb : ∀ (vs : List Value) (s : Shared), HOk C s.heap → vs.length = ds.length → BindsTo s fd ⟨vs, []⟩ (ps.zip vs)) (hq : (c, P, J.dp, fd.qualname ++ ".<locals>." ++ J.nm) ∈ C.tabs) (hcode : fd.code = .ref c)
    (hd0 : J.params.defaults = []) (hk0 : J.params.kw_defaults = []) (ha : ∀ env, annTrees J.params none env = [])
    (hib : ∀ cl doc pm cdv ctv (vs : List Value), vs.length = ips.length → bindArgs (fnX J.nm (fd.qualname ++ ".<locals>." ++ J.nm) J.params J.I.body J.scope cl .none .none doc pm none cdv ctv) ⟨vs, []⟩ = pure (ips.zip vs))
    (hnl : ∀ elt gens scope pos, J.e0 ≠ .ListComp elt gens scope pos) (ev : i2d G N fd.scope.names ps ips J m ds = some r) : CallOk C (k + m + 1) (.ref a) ds r := by
  intro A X vs s Q E K H x rv h
  simp only [In0.ok, Bool.and_eq_true, Bool.not_eq_true', beq_iff_eq, decide_eq_true_eq] at hJ
  obtain ⟨⟨⟨⟨⟨⟨⟨⟨⟨⟨⟨⟨⟨⟨⟨⟨⟨⟨⟨j1, j2⟩, j3⟩, j4⟩, j5⟩, j6⟩, j7⟩, j8⟩, j9⟩, j10⟩, j11⟩, j12⟩, j13⟩, j14⟩, j15⟩, j16⟩, j17⟩, j18⟩, j19⟩, j20⟩ := hJ
  have j3' : (J.dx == J.nm) = false := j3
  have j12' : ∀ p ∈ J.scope.names, p.2 ≠ .cell ∧ (p.2 = .free → fd.scope.names.lookup p.1 = some .cell ∧ J.scope.names.lookup p.1 = some .free) := fun p hp => by
    have := List.all_eq_true.mp j12 p hp
    simp only [Bool.and_eq_true, bne_iff_ne, ne_eq, Bool.or_eq_true, beq_iff_eq] at this
    exact ⟨this.1, fun q => this.2.resolve_left fun w => w q⟩
  have j14' : ∀ p ∈ ips, okName p = true ∧ J.scope.names.lookup p = some .local := fun p hp => by
    have := List.all_eq_true.mp j14 p hp
    simpa only [Bool.and_eq_true, beq_iff_eq] using this
  have np : ∀ {y d}, (ps.zip ds).lookup y = some d → y ≠ J.dx ∧ y ≠ J.nm ∧ scalar d = true := fun {y d} e => by
    have hm := List.of_mem_zip (mem_of_lookup e)
    refine ⟨fun q => ?_, fun q => ?_, List.all_eq_true.mp hsd _ hm.2⟩
    · subst q; simp [List.contains_iff_mem, hm.1] at j1
    · subst q; simp [List.contains_iff_mem, hm.1] at j2
  refine enter_ok CO DA hsc K H x rv (hb vs s H rv.length) fun env s' hs kp fr F hcd hqu => ?_
  obtain ⟨h0, tk0, rfl⟩ := hs
  dsimp only at kp F
  have Km : Aok (k + m) (A.deeper env) := K.deeper
  have Kk : Aok k (A.deeper env) := Km.mono (by omega)
  have EV := ev_ok CO GO N
  generalize hX : (fun b => X b ∨ b = env.locals ∨ ∃ y, env.cells.lookup y = some b) = X1 at F
  simp only [i2d, Option.bind_eq_some_iff] at ev
  obtain ⟨d0, h1, ev⟩ := ev
  cases d0 <;> try (simp only [reduceCtorEq] at ev)
  rename_i l0
  split at ev
  · rename_i hsl
    simp only [Option.bind_eq_some_iff] at ev
    obtain ⟨cnd, h2, b, h3, ev⟩ := ev
    show wpAny _ _ (execs [.Assign [.Name J.dx J.dxp] J.e0 J.p0, .FunctionDef J.nm J.params J.I.body [] none [] J.scope none J.nm J.dp, .If J.t [.Expr (.Call (.Name J.nm J.fp) J.args [] J.cp) J.ep] [] J.ip, .Return (some (.Name J.dx J.rp1)) J.rp2] env) _ _ _
    refine wpAny_execs_cons (wpAny_Assign_Name (EV.1 (Old h0) fd.scope.names env _ J.e0 _ h1 _ _ _ _ Kk (F.old (fun x d e => (np e).2.2)).st fun v h1' tk1 H1 k1 r1 => ?_) (swaps_no h1 hnl))
    obtain ⟨L, ws, n, rfl, nL, gL, rL⟩ := r1.lst_inv
    have frL : h0.get? L = none := by
      cases q : h0.get? L with
      | none => rfl
      | some o => exact absurd ⟨_, q⟩ nL
    have nX1 : ¬ X1 L := fun q => nL (F.st.x.ex _ q)
    have nYL : ¬ Yf C fd.scope.names env L := fun q => nX1 (Yf_X F _ q)
    have F1 : FrOk C (fun b => X1 b ∨ b = L) fd.scope.names env (ps.zip ds) h1' := F.growT frL k1 H1 ⟨_, gL⟩
    refine store_ok (d := .adr L) (s := { s with heap := h1', toks := tk1 }) F1 j4 (by simp only [Rp]) fun h2' tk2 F2 k2 => ?_
    have k2' : Kp (Yf C fd.scope.names env) h1' h2' := k2.mono fun b q => .inr q
    have gL2 := k2' _ _ nYL gL
    have kdn : env.kindOf J.nm = some .cell := by
      rcases F.st.e.kd J.nm with q | ⟨q, _⟩
      · rw [q]; exact j7
      · rw [j7] at q; cases q
    have hqual : qualnameIn env J.nm J.nm = fd.qualname ++ ".<locals>." ++ J.nm := by
      unfold qualnameIn
      rw [kdn, hqu]; rfl
    refine wpAny_execs_cons (mkDef_ok (s := { s with heap := h2', toks := tk2 }) CO TO F2 hq (hcd.trans hcode) hqual hd0 hk0 (ha env) (fun p hp hk => .inl ((j12' p hp).2 hk).1) j5 j18 j19 j20 (fun p hp => (j12' p hp).1) fun f cdv ctv doc pm h3' tk3 F3 k3 fr3 na => ?_)
    dsimp only at k3 fr3 na F3
    have subs : ∀ y d, ((J.dx, D.adr L) :: ps.zip ds).lookup y = some d → (setA J.nm (.adr f) (setA J.dx (.adr L) (ps.zip ds))).lookup y = some d := fun y d e => by
      rw [List.lookup_cons] at e
      rw [lookup_setA, lookup_setA]
      by_cases w : y = J.dx
      · subst w
        simp only [beq_self_eq_true] at e
        rw [if_neg (fun q => by rw [q] at j3; simp at j3), if_pos rfl]; exact e
      · rw [beq_eq_false_iff_ne.mpr w] at e
        rw [if_neg (np e).2.1, if_neg w]; exact e
    have subn : (setA J.nm (.adr f) (setA J.dx (.adr L) (ps.zip ds))).lookup J.nm = some (.adr f) := by rw [lookup_setA, if_pos rfl]
    have eX : ∀ l, Xm X1 [(J.dx, L, l)] = fun b => X1 b ∨ b = L := fun l => funext fun b => propext (or_congr_right ⟨fun ⟨q, hq, e⟩ => by
      rw [List.mem_singleton] at hq; subst hq; exact e.symm, fun e => ⟨_, List.mem_singleton.mpr rfl, e.symm⟩⟩)
    have k13 : Kp (Yf C fd.scope.names env) h1' h3' := k2'.trans k3
    have gL3 := k13 _ _ nYL gL
    have M3 : MFr C X1 fd.scope.names env ((J.dx, D.adr L) :: ps.zip ds) [(J.dx, L, l0)] h3' := by
      refine ⟨by rw [eX]; exact F3.sub subs, F.st.x.tb, F.st.e.xl, F.st.e.xc, fun q hq => ?_, by simp, F.st.x.bs⟩
      rw [List.mem_singleton] at hq; subst hq
      exact ⟨⟨ws, n, gL3, rL.scalar hsl⟩, F.st.H.baseNone frL, nX1, by rw [List.lookup_cons]; simp⟩
    have CL3 : Clo C (Xm X1 [(J.dx, L, l0)]) h3' f (fnX J.nm (fd.qualname ++ ".<locals>." ++ J.nm) J.params J.I.body J.scope (clOf env J.scope.names []) .none .none doc pm none cdv ctv) J.I.body (keepFree J.scope.names (ps.zip ds)) [(J.nm, .ref f), (J.dx, .ref L)] := by
      rw [eX]
      refine clo_of F3 na rfl (fun p hp hk => (j12' p hp).2 hk) (fun y d e => ?_) fun y v e => ?_
      · obtain ⟨a1, a2⟩ := lookup_keepFree e
        refine ⟨a1, subs y d ?_⟩
        rw [List.lookup_cons, beq_eq_false_iff_ne.mpr (np a2).1]; exact a2
      · rw [List.lookup_cons] at e
        by_cases w : y = J.nm
        · subst w
          simp only [beq_self_eq_true, Option.some.injEq] at e; subst e
          exact ⟨j11, f, rfl, subn⟩
        · rw [beq_eq_false_iff_ne.mpr w, List.lookup_cons] at e
          by_cases w2 : y = J.dx
          · subst w2
            simp only [beq_self_eq_true, Option.some.injEq] at e; subst e
            exact ⟨j10, L, rfl, subs _ _ (by rw [List.lookup_cons]; simp)⟩
          · rw [beq_eq_false_iff_ne.mpr w2] at e; cases e
    -- the last statement
    have last : ∀ h4 tk4 l', MFr C X1 fd.scope.names env ((J.dx, D.adr L) :: ps.zip ds) [(J.dx, L, l')] h4 → Kp (fun b => Yf C fd.scope.names env b ∨ b = L) h3' h4 → r = .lst l' →
        wpAny (model C.prog C.w) (A.deeper env) (execs [.Return (some (.Name J.dx J.rp1)) J.rp2] env) (fun f s'' => Q (match f with | .ret v => v | _ => .none) s'') (fun _ _ => False) { s with heap := h4, toks := tk4 } := by
      intro h4 tk4 l' M4 k4 hr
      subst hr
      refine wpAny_execs_cons (wpAny_Return_some (Name_ok (d := .lst l') (s := { s with heap := h4, toks := tk4 }) M4.seen.st (by simp [view]) fun v h5 tk5 H5 k5 r5 => ?_))
      refine h v h5 tk5 H5 (fun b o nb eb => ?_) (r5.av fun b _ _ q => by rw [← hX]; exact .inl q)
      have e0 := kp b o eb
      have bL : b ≠ L := fun q => by rw [q, frL] at e0; cases e0
      have nY : ¬ Yf C fd.scope.names env b := by
        rintro (q | q | ⟨y, _, q⟩)
        · exact nb q
        · rw [fr b (.inl q)] at eb; cases eb
        · rw [fr b (.inr ⟨y, q⟩)] at eb; cases eb
      exact k5 b o nb (k4 b o (fun q => q.elim nY bL) (k13 b o nY (k1 b o nb e0)))
    have FZ : FrOk C (fun b => X1 b ∨ b = L) fd.scope.names env (ps.zip ds) h3' := F3.sub fun y d e => subs y d (by rw [List.lookup_cons, beq_eq_false_iff_ne.mpr (np e).1]; exact e)
    have hint : interactive env = false := by unfold interactive; rw [F.st.e.fn]; rfl
    refine wpAny_execs_cons (wpAny_If (EV.2 _ fd.scope.names env (ps.zip ds) J.t cnd b h2 h3 _ { s with heap := h3', toks := tk3 } _ _ Kk FZ.st fun h4 tk4 H4 k4 => ?_))
    dsimp only at k4
    induction b using Bool.casesOn with
    | false =>
      simp only [Bool.false_eq_true, if_false, Option.some.injEq] at ev ⊢
      exact wpAny_execs_nil (last h4 tk4 l0 (M3.kp H4 k4) (k4.mono fun b q => .inl (.inl q)) ev.symm)
    | true =>
      simp only [if_true, Option.bind_eq_some_iff] at ev ⊢
      obtain ⟨d1, h5, ev⟩ := ev
      split at ev
      · rename_i hsol
        simp only [Option.map_eq_some_iff] at ev
        obtain ⟨l', h6, rfl⟩ := ev
        have M4 := M3.kp H4 k4
        have CL4 := CL3.kp k4 M3.fr.st.x.tb fun b o q e => fx_tb M3.fr.st.H q e
        have FV : FrOk C X1 fd.scope.names env ((J.dx, .lst l0) :: ps.zip ds) h4 := M4.seen.sub fun y d e => by
          rw [view, List.map_cons, List.map_nil, List.cons_append, List.nil_append]
          rw [List.lookup_cons] at e ⊢
          by_cases w : y = J.dx
          · subst w; simpa using e
          · rw [beq_eq_false_iff_ne.mpr w] at e ⊢
            rw [List.lookup_cons, beq_eq_false_iff_ne.mpr w]; exact e
        have hnf : ((J.nm, Value.ref f) :: [(J.dx, Value.ref L)]).lookup J.nm = some (.ref f) := by rw [List.lookup_cons]; simp
        have hnL : ((J.nm, Value.ref f) :: [(J.dx, Value.ref L)]).lookup J.dx = some (.ref L) := by rw [List.lookup_cons, j3', List.lookup_cons]; simp
        obtain ⟨okf, frf, cf, hcf, hif⟩ := CL4.hv _ _ hnf
        obtain ⟨cw, vw, ew, iw, _⟩ := FV.cx J.nm j7
        obtain ⟨o, ho, hd⟩ := CL4.na.ob
        refine wpAny_execs_cons (wpAny_Expr_any ?_ hint rfl)
        have nmc : env.cells.lookup J.nm = some cf := clOf_sound J.scope.names [] (fun p hp hk => F.st.e.cl p.1 (.inl ((j12' p hp).2 hk).1)) (fun _ _ q => by cases q) _ _ hcf
        refine callF_ok (s := { s with heap := h4, toks := tk4 }) Kk (EV.1 X1 fd.scope.names env _) FV.st (fun _ _ _ => trivial) rfl h5 (fun Q' hq => cellName_ok (s := { s with heap := h4, toks := tk4 }) FV.st j7 okf nmc hif hq) ho hd fun vs1 h5' tk5 H5 k5 r5 => ?_
        dsimp only at k5
        have M5 := M4.kp H5 k5
        have CL5 := CL4.kp k5 M4.fr.st.x.tb fun b o q e => fx_tb M4.fr.st.H q e
        refine inner1_ok (sc := J.scope.names) (ps := ips) (φc := keepFree J.scope.names (ps.zip ds)) (I := J.I) CO GO j13 j14' rfl (by rw [j8]; exact hnf) (by rw [j9]; exact hnL) (fun vs hl => hib _ _ _ _ _ vs hl) (F.st.H.baseNone frL) m d1 l0 l' h6 (by rw [evs_len h5, j17]) _ _ { s with heap := h5', toks := tk5 } _ _ vs1 Km H5 M5.fr.st.x
          (.inr ⟨_, List.mem_singleton.mpr rfl, rfl⟩) (M5.ls _ (List.mem_singleton.mpr rfl)).1 CL5 (r5.solid M5.hm hsol) ⟨j15, j16⟩ fun h6' tk6 H6 k6 hl6 => ?_
        dsimp only at k6
        have M6 := M5.change (a := L) ⟨_, List.mem_singleton.mpr rfl, rfl⟩ H6 k6 hl6
        simp only [setM, List.map_cons, List.map_nil, if_true] at M6
        refine wpAny_execs_nil (last h6' tk6 l' M6 ?_ rfl)
        exact ((k4.trans k5).mono fun b q => .inl (.inl q)).trans (k6.mono fun b q => q.imp .inl id)
      · cases ev
  · cases ev
end
end Mine
namespace Mine
open PySem PySem.Spec PySem.Calls PyProof.Rows PySem.W
set_option linter.unusedVariables false
set_option maxRecDepth 100000

set_option genInjectivity false in
set_option genSizeOfSpec false in
/-- the shape of the nested def that sums the figures -/
structure Jn1 where
  t : Expr
  ip : Pos
  rt : Expr
  rtp : Pos
  pre : List Stmt
  fx : Str
  f1p : Pos
  a1 : List Expr
  c1p : Pos
  o1 : Operator
  sh : Expr
  b1p : Pos
  o2 : Operator
  f2p : Pos
  a2 : List Expr
  c2p : Pos
  b2p : Pos
  rp : Pos
noncomputable def Jn1.body (I : Jn1) : List Stmt :=
  .If I.t [.Return (some I.rt) I.rtp] [] I.ip ::
    (I.pre ++ [.Return (some (.BinOp (.BinOp (.Call (.Name I.fx I.f1p) I.a1 [] I.c1p) I.o1 I.sh I.b1p) I.o2 (.Call (.Name I.fx I.f2p) I.a2 [] I.c2p) I.b2p)) I.rp])

noncomputable def d2 (G : Fn) (N : Nat) (sc : Sc) (ps : List Str) (φc : Ph) (I : Jn1) : Nat → List D → Option D
  | 0, _ => none
  | m + 1, ds =>
    (ev G N sc (ps.zip ds ++ φc) I.t).bind fun c => (truthD c).bind fun b => if b then ev G N sc (ps.zip ds ++ φc) I.rt
     else (exB (exS G N N sc) I.pre (ps.zip ds ++ φc)).bind fun o => match o.2 with
       | some _ => none
       | none => (evs (ev G N sc o.1) I.a1).bind fun d1 => (d2 G N sc ps φc I m d1).bind fun x => (ev G N sc o.1 I.sh).bind fun y => (binD I.o1 x y).bind fun z =>
         (evs (ev G N sc o.1) I.a2).bind fun d3 => (d2 G N sc ps φc I m d3).bind fun u => binD I.o2 z u

section
variable {C : Cfg} {k : Nat} {G : Fn} {N : Nat} {sc : Sc} {ps : List Str} {φc : Ph} {I : Jn1}

theorem inner2_ok (CO : CfgOk C) (GO : GOk C k G) (hnd : ps.Nodup) (hps : ∀ p ∈ ps, okName p = true ∧ sc.lookup p = some .local) {f : Addr} {fd : FuncData} {vc : List (Str × Value)} (hsc : fd.scope.names = sc)
    (hfx : vc.lookup I.fx = some (.ref f)) (hb : ∀ vs : List Value, vs.length = ps.length → bindArgs fd ⟨vs, []⟩ = pure (ps.zip vs)) (hal : I.a1.length = ps.length ∧ I.a2.length = ps.length) :
    ∀ m ds r, d2 G N sc ps φc I m ds = some r → ds.length = ps.length → ∀ (A : Around) (X : Addr → Prop) (s : Shared) (Q E : Value → Shared → Prop) (vs : List Value), Aok (k + m) A → HOk C s.heap → XOk C X s.heap →
    Clo C X s.heap f fd I.body φc vc → RpL X s.heap ds vs → Ret C X s r Q → wpAny (model C.prog C.w) A (call (.ref f) vs) Q E s := by
  intro m
  induction m with
  | zero => intro ds r e; simp [d2] at e
  | succ m ih =>
    intro ds r e hds A X s Q E vs K H x CL rv h
    have EV := ev_ok CO GO N
    refine enterN_ok (k := k + m) CO CL.na hnd (hsc ▸ hps) K H x rv (hb vs (by rw [rv.length, hds])) CL.hcx CL.hcl CL.hap CL.hφ fun env s' hs kp fr F hcells => ?_
    rw [hsc] at F
    obtain ⟨h0, tk0, rfl⟩ := hs
    dsimp only at kp
    have Km : Aok (k + m) (A.deeper env) := K.deeper
    have Kk : Aok k (A.deeper env) := Km.mono (by omega)
    have av : ∀ b o, s.heap.get? b = some o → (X b ∨ b = env.locals) → X b := fun b o e q => q.elim id fun q => by subst q; rw [fr] at e; cases e
    have CL0 : Clo C (fun b => X b ∨ b = env.locals) h0 f fd I.body φc vc := (CL.grow (X' := fun b => X b ∨ b = env.locals) av fun b q => .inl q).kp (Y := fun _ => False) (fun b o _ e => kp b o e) (fun _ q => q.elim) fun _ _ q => q.elim
    have yfx : ∀ {h' φ'}, FrOk C (fun b => X b ∨ b = env.locals) sc env φ' h' → ∀ b o, Yf C sc env b → h'.get? b = some o → ¬ Fxo o := fun {h' φ'} F' b o q e => by
      rcases q with q | q | ⟨y, q, _⟩
      · exact fx_tb F'.st.H q e
      · obtain ⟨mm, o', es, ep, e2, d2, _⟩ := F'.ns
        rw [q, e2] at e; cases e
        rintro (⟨fd, x⟩ | ⟨v, x⟩ | ⟨vs, s, t, x, y⟩) <;> rw [d2] at x <;> cases x
      · rw [← hsc] at q; exact absurd rfl (CL.na.nc _ (mem_lookup q))
    have back : ∀ v h' tk, HOk C h' → Kp (Yf C sc env) h0 h' → Rp (fun b => X b ∨ b = env.locals) h' r v → Q v { s with heap := h', toks := tk } := fun v h' tk H' k' r' => by
      refine h v h' tk H' (fun b o nb eb => k' b o ?_ (kp b o eb)) (r'.av fun b _ _ q => .inl q)
      rintro (q | q | ⟨y, q, _⟩)
      · exact nb q
      · rw [q, fr] at eb; cases eb
      · rw [← hsc] at q; exact absurd rfl (CL.na.nc _ (mem_lookup q))
    simp only [d2, Option.bind_eq_some_iff] at e
    obtain ⟨c, h1, b, h2, e⟩ := e
    show wpAny _ _ (execs (_ :: _) env) _ _ _
    refine wpAny_execs_cons (wpAny_If (EV.2 _ sc env _ I.t c b h1 h2 _ _ _ _ Kk F.st fun h1 tk1 H1 k1 => ?_))
    have F1 := F.kp H1 k1
    induction b using Bool.casesOn with
    | true =>
      simp only [if_true] at e ⊢
      refine wpAny_execs_cons (wpAny_Return_some (EV.1 _ sc env _ _ _ e _ _ _ _ Kk F1.st fun v h2 tk2 H2 k2 r2 => ?_))
      exact back v h2 tk2 H2 (k1.trans k2).yf r2
    | false =>
      simp only [Bool.false_eq_true, if_false, Option.bind_eq_some_iff] at e ⊢
      obtain ⟨⟨φ1, r1⟩, h3, e⟩ := e
      induction r1 using Option.casesOn with
      | some d => simp at e
      | none =>
        simp only [Option.bind_eq_some_iff] at e
        obtain ⟨d1, h4, x1, h5, y1, h6, z1, h7, d3, h8, u1, h9, h10⟩ := e
        refine wpAny_execs_nil ?_
        refine exB_app (exS_ok CO GO N N sc) Kk I.pre _ φ1 _ h3 F1 fun h2 tk2 F2 k2 => ?_
        have k02 : Kp (Yf C sc env) h0 h2 := k1.yf.trans k2
        have CL2 := CL0.kp k02 (Yf_X F) (yfx F)
        obtain ⟨okf, frf, cf, hcf, hif⟩ := CL2.hv _ _ hfx
        rw [hsc] at frf
        obtain ⟨o, ho, hd⟩ := CL2.na.ob
        refine wpAny_execs_cons (wpAny_Return_some (wpAny_BinOp (wpAny_BinOp ?_)))
        refine callF_ok (s := { s with heap := h2, toks := tk2 }) Kk (EV.1 _ sc env φ1) F2.st (fun _ _ _ => trivial) rfl h4 (fun Q' hq => freeName_ok (s := { s with heap := h2, toks := tk2 }) F2.st frf okf (by rw [hcells]; exact hcf) hif hq) ho hd fun vs1 h3 tk3 H3 k3 r3 => ?_
        have F3 := F2.kp H3 k3
        have CL3 := CL2.kp k3 F2.st.x.tb fun b o q e => fx_tb F2.st.H q e
        refine ih d1 x1 h5 (by rw [evs_len h4, hal.1]) _ _ { s with heap := h3, toks := tk3 } _ _ vs1 Km H3 F3.st.x CL3 r3 fun v4 h4' tk4 H4 k4 r4 => ?_
        have F4 := F3.kp H4 k4
        have CL4 := CL3.kp k4 F3.st.x.tb fun b o q e => fx_tb H3 q e
        refine EV.1 _ sc env φ1 I.sh y1 h6 _ { s with heap := h4', toks := tk4 } _ _ Kk F4.st fun v5 h5' tk5 H5 k5 r5 => ?_
        have F5 := F4.kp H5 k5
        have CL5 := CL4.kp k5 F4.st.x.tb fun b o q e => fx_tb H4 q e
        refine bin_ok (s := { s with heap := h5', toks := tk5 }) Kk H5 F5.st.x (r4.kp k5 F4.st.x.tb) r5 h7 fun v6 h6' tk6 H6 k6 r6 => ?_
        have F6 := F5.kp H6 k6
        have CL6 := CL5.kp k6 F5.st.x.tb fun b o q e => fx_tb H5 q e
        obtain ⟨okf, frf, cf, hcf, hif⟩ := CL6.hv _ _ hfx
        rw [hsc] at frf
        obtain ⟨o, ho, hd⟩ := CL6.na.ob
        refine callF_ok (s := { s with heap := h6', toks := tk6 }) Kk (EV.1 _ sc env φ1) F6.st (fun _ _ _ => trivial) rfl h8 (fun Q' hq => freeName_ok (s := { s with heap := h6', toks := tk6 }) F6.st frf okf (by rw [hcells]; exact hcf) hif hq) ho hd fun vs7 h7' tk7 H7 k7 r7 => ?_
        have F7 := F6.kp H7 k7
        have CL7 := CL6.kp k7 F6.st.x.tb fun b o q e => fx_tb H6 q e
        refine ih d3 u1 h9 (by rw [evs_len h8, hal.2]) _ _ { s with heap := h7', toks := tk7 } _ _ vs7 Km H7 F7.st.x CL7 r7 fun v8 h8' tk8 H8 k8 r8 => ?_
        have F8 := F7.kp H8 k8
        refine bin_ok (s := { s with heap := h8', toks := tk8 }) Kk H8 F8.st.x ((r6.kp k7 F6.st.x.tb).kp k8 F7.st.x.tb) r8 h10 fun v9 h9' tk9 H9 k9 r9 => ?_
        exact back v9 h9' tk9 H9 (k02.trans ((((((k3.trans k4).trans k5).trans k6).trans k7).trans k8).trans k9).yf) r9
end

set_option genInjectivity false in
set_option genSizeOfSpec false in
/-- the shape of the def that sums the figures -/
structure Jn0 where
  nm : Str
  params : Arguments
  I : Jn1
  scope : Scope
  dp : Pos
  t : Expr
  fp : Pos
  args : List Expr
  cp : Pos
  z : Expr
  xp : Pos
  rp : Pos
noncomputable def Jn0.body (J : Jn0) : List Stmt :=
  [.FunctionDef J.nm J.params J.I.body [] none [] J.scope none J.nm J.dp, .Return (some (.IfExp J.t (.Call (.Name J.nm J.fp) J.args [] J.cp) J.z J.xp)) J.rp]

noncomputable def d2i (G : Fn) (N : Nat) (sc : Sc) (ps ips : List Str) (J : Jn0) (m : Nat) (ds : List D) : Option D :=
  (ev G N sc (ps.zip ds) J.t).bind fun c => (truthD c).bind fun b => if b then
      (evs (ev G N sc (ps.zip ds)) J.args).bind fun d1 => d2 G N J.scope.names ips (keepFree J.scope.names (ps.zip ds)) J.I m d1
    else ev G N sc (ps.zip ds) J.z

noncomputable def Jn0.ok (J : Jn0) (sc : Sc) (ps ips : List Str) : Bool :=
  !ps.contains J.nm && kindSt sc J.nm && sc.lookup J.nm == some .cell && J.I.fx == J.nm
    && J.scope.names.lookup J.nm == some .free && J.scope.names.all (fun p => p.2 != .cell && (p.2 != .free || (sc.lookup p.1 == some .cell && J.scope.names.lookup p.1 == some .free)))
    && decide ips.Nodup && ips.all (fun p => okName p && J.scope.names.lookup p == some .local) && decide (J.I.a1.length = ips.length) && decide (J.I.a2.length = ips.length) && decide (J.args.length = ips.length)
    && !J.scope.isCoroutine && !J.scope.isGenerator && (J.scope.kind == .function)

section
variable {C : Cfg} {k : Nat} {G : Fn} {N m : Nat}
theorem d2i_ok {a c P : Addr} {fd : FuncData} {J : Jn0} {ps ips : List Str} {ds : List D} {r : D} (CO : CfgOk C) (TO : TbsOk C) (GO : GOk C k G) (DA : DefAt C a fd J.body) (hsc : defSc fd.scope.names ps = true) (hJ : J.ok fd.scope.names ps ips = true) (hds : ds.length = ps.length)
    (hb : ∀ (vs : List Value) (s : Shared), HOk C s.heap → vs.length = ds.length → BindsTo s fd ⟨vs, []⟩ (ps.zip vs)) (hq : (c, P, J.dp, fd.qualname ++ ".<locals>." ++ J.nm) ∈ C.tabs) (hcode : fd.code = .ref c)
    (hd0 : J.params.defaults = []) (hk0 : J.params.kw_defaults = []) (ha : ∀ env, annTrees J.params none env = [])
    (hib : ∀ cl doc pm cdv ctv (vs : List Value), vs.length = ips.length → bindArgs (fnX J.nm (fd.qualname ++ ".<locals>." ++ J.nm) J.params J.I.body J.scope cl .none .none doc pm none cdv ctv) ⟨vs, []⟩ = pure (ips.zip vs))
    (ev : d2i G N fd.scope.names ps ips J m ds = some r) : CallOk C (k + m + 1) (.ref a) ds r := by
  intro A X vs s Q E K H x rv h
  simp only [Jn0.ok, Bool.and_eq_true, Bool.not_eq_true', beq_iff_eq, decide_eq_true_eq] at hJ
  obtain ⟨⟨⟨⟨⟨⟨⟨⟨⟨⟨⟨⟨⟨j2, j5⟩, j7⟩, j8⟩, j11⟩, j12⟩, j13⟩, j14⟩, j15⟩, j16⟩, j17⟩, j18⟩, j19⟩, j20⟩ := hJ
  have j12' : ∀ p ∈ J.scope.names, p.2 ≠ .cell ∧ (p.2 = .free → fd.scope.names.lookup p.1 = some .cell ∧ J.scope.names.lookup p.1 = some .free) := fun p hp => by
    have := List.all_eq_true.mp j12 p hp
    simp only [Bool.and_eq_true, bne_iff_ne, ne_eq, Bool.or_eq_true, beq_iff_eq] at this
    exact ⟨this.1, fun q => this.2.resolve_left fun w => w q⟩
  have j14' : ∀ p ∈ ips, okName p = true ∧ J.scope.names.lookup p = some .local := fun p hp => by
    have := List.all_eq_true.mp j14 p hp
    simpa only [Bool.and_eq_true, beq_iff_eq] using this
  have np : ∀ {y d}, (ps.zip ds).lookup y = some d → y ≠ J.nm := fun {y d} e q => by
    have hm := List.of_mem_zip (mem_of_lookup e)
    subst q; simp [List.contains_iff_mem, hm.1] at j2
  refine enter_ok CO DA hsc K H x rv (hb vs s H rv.length) fun env s' hs kp fr F hcd hqu => ?_
  obtain ⟨h0, tk0, rfl⟩ := hs
  dsimp only at kp F
  have Km : Aok (k + m) (A.deeper env) := K.deeper
  have Kk : Aok k (A.deeper env) := Km.mono (by omega)
  have EV := ev_ok CO GO N
  generalize hX : (fun b => X b ∨ b = env.locals ∨ ∃ y, env.cells.lookup y = some b) = X1 at F
  simp only [d2i, Option.bind_eq_some_iff] at ev
  obtain ⟨cnd, h2, b, h3, ev⟩ := ev
  have kdn : env.kindOf J.nm = some .cell := by
    rcases F.st.e.kd J.nm with q | ⟨q, _⟩
    · rw [q]; exact j7
    · rw [j7] at q; cases q
  have hqual : qualnameIn env J.nm J.nm = fd.qualname ++ ".<locals>." ++ J.nm := by
    unfold qualnameIn
    rw [kdn, hqu]; rfl
  show wpAny _ _ (execs [.FunctionDef J.nm J.params J.I.body [] none [] J.scope none J.nm J.dp, .Return (some (.IfExp J.t (.Call (.Name J.nm J.fp) J.args [] J.cp) J.z J.xp)) J.rp] env) _ _ _
  refine wpAny_execs_cons (mkDef_ok (s := { s with heap := h0, toks := tk0 }) CO TO F hq (hcd.trans hcode) hqual hd0 hk0 (ha env) (fun p hp hk => .inl ((j12' p hp).2 hk).1) j5 j18 j19 j20 (fun p hp => (j12' p hp).1) fun f cdv ctv doc pm h3' tk3 F3 k3 fr3 na => ?_)
  dsimp only at k3 fr3 na F3
  have subn : (setA J.nm (.adr f) (ps.zip ds)).lookup J.nm = some (.adr f) := by rw [lookup_setA, if_pos rfl]
  have subs : ∀ y d, (ps.zip ds).lookup y = some d → (setA J.nm (.adr f) (ps.zip ds)).lookup y = some d := fun y d e => by rw [lookup_setA, if_neg (np e)]; exact e
  have FZ := F3.sub subs
  have CL3 : Clo C X1 h3' f (fnX J.nm (fd.qualname ++ ".<locals>." ++ J.nm) J.params J.I.body J.scope (clOf env J.scope.names []) .none .none doc pm none cdv ctv) J.I.body (keepFree J.scope.names (ps.zip ds)) [(J.nm, .ref f)] := by
    refine clo_of F3 na rfl (fun p hp hk => (j12' p hp).2 hk) (fun y d e => ?_) fun y v e => ?_
    · obtain ⟨a1, a2⟩ := lookup_keepFree e
      exact ⟨a1, subs y d a2⟩
    · rw [List.lookup_cons] at e
      by_cases w : y = J.nm
      · subst w
        simp only [beq_self_eq_true, Option.some.injEq] at e; subst e
        exact ⟨j11, f, rfl, subn⟩
      · rw [beq_eq_false_iff_ne.mpr w] at e; cases e
  have back : ∀ v h5 tk5, HOk C h5 → Kp C.Tb h3' h5 → Rp X1 h5 r v → Q v { s with heap := h5, toks := tk5 } := fun v h5 tk5 H5 k5 r5 => by
    refine h v h5 tk5 H5 (fun b o nb eb => ?_) (r5.av fun b _ _ q => by rw [← hX]; exact .inl q)
    have nY : ¬ Yf C fd.scope.names env b := by
      rintro (q | q | ⟨y, _, q⟩)
      · exact nb q
      · rw [fr b (.inl q)] at eb; cases eb
      · rw [fr b (.inr ⟨y, q⟩)] at eb; cases eb
    exact k5 b o nb (k3 b o nY (kp b o eb))
  refine wpAny_execs_cons (wpAny_Return_some (IfExp_ (EV.2 _ fd.scope.names env (ps.zip ds) J.t cnd b h2 h3 _ { s with heap := h3', toks := tk3 } _ _ Kk FZ.st fun h4 tk4 H4 k4 => ?_)))
  have F4 := FZ.kp H4 k4
  induction b using Bool.casesOn with
  | false =>
    simp only [Bool.false_eq_true, if_false] at ev ⊢
    exact EV.1 _ fd.scope.names env _ _ _ ev _ { s with heap := h4, toks := tk4 } _ _ Kk F4.st fun v h5 tk5 H5 k5 r5 => back v h5 tk5 H5 (k4.trans k5) r5
  | true =>
    simp only [if_true, Option.bind_eq_some_iff] at ev ⊢
    obtain ⟨d1, h5, ev⟩ := ev
    have CL4 := CL3.kp k4 FZ.st.x.tb fun b o q e => fx_tb FZ.st.H q e
    have hnf : [(J.nm, Value.ref f)].lookup J.nm = some (.ref f) := by rw [List.lookup_cons]; simp
    obtain ⟨okf, frf, cf, hcf, hif⟩ := CL4.hv _ _ hnf
    obtain ⟨o, ho, hd⟩ := CL4.na.ob
    have nmc : env.cells.lookup J.nm = some cf := clOf_sound J.scope.names [] (fun p hp hk => F.st.e.cl p.1 (.inl ((j12' p hp).2 hk).1)) (fun _ _ q => by cases q) _ _ hcf
    refine callF_ok (s := { s with heap := h4, toks := tk4 }) Kk (EV.1 X1 fd.scope.names env _) F4.st (fun _ _ _ => trivial) rfl h5 (fun Q' hq => cellName_ok (s := { s with heap := h4, toks := tk4 }) F4.st j7 okf nmc hif hq) ho hd fun vs1 h5' tk5 H5 k5 r5 => ?_
    dsimp only at k5
    have F5 := F4.kp H5 k5
    have CL5 := CL4.kp k5 F4.st.x.tb fun b o q e => fx_tb F4.st.H q e
    exact inner2_ok (sc := J.scope.names) (ps := ips) (φc := keepFree J.scope.names (ps.zip ds)) (I := J.I) CO GO j13 j14' rfl (by rw [j8]; exact hnf) (fun vs hl => hib _ _ _ _ _ vs hl) ⟨j15, j16⟩ m d1 r ev (by rw [evs_len h5, j17]) _ _ { s with heap := h5', toks := tk5 } _ _ vs1 Km H5 F5.st.x CL5 r5
      fun v h6 tk6 H6 k6 r6 => back v h6 tk6 H6 ((k4.trans k5).trans k6) r6
end
end Mine
namespace Mine
open PySem PySem.Spec PySem.Calls PyProof.Rows PySem.W
set_option linter.unusedVariables false
set_option maxRecDepth 100000

theorem RpL.drop {X : Addr → Prop} {h : Heap} : ∀ {l : List D} {vs : List Value} (n : Nat), RpL X h l vs → RpL X h (l.drop n) (vs.drop n)
  | l, vs, 0, x => x
  | [], vs, n + 1, x => by simp only [RpL] at x; subst x; simp [RpL]
  | d :: l, vs, n + 1, x => by
    simp only [RpL] at x
    obtain ⟨v, r, rfl, a, b⟩ := x
    simpa using RpL.drop n b

theorem methEq2 {y name : Str} {py apos pos : Pos} {y1 y2 : Str} {p1 p2 : Pos} {env : Env} (hq : (apos.endLine == pos.line) = true) : eval (.Call (.Attribute (.Name y py) name apos) [.Name y1 p1, .Name y2 p2] [] pos) env = (do
      let ov ← eval (.Name y py) env
      standAt apos.atName
      let (f, first) ← holding [ov] (getMethod ov name (do return (← importBound (.Name y py) env).getD true))
      callWith pos f first (backTo pos (starEach [.Name y1 p1, .Name y2 p2] env)) []) := by
  rw [arm_eval_Call]
  have hf : methodCallForm (([.Name y1 p1, .Name y2 p2] : List Expr).length + ([] : List Keyword).length) (backTo pos (starEach [.Name y1 p1, .Name y2 p2] env)) (backToKw pos (keywordEach [] env)) = true := rfl
  simp only [methodCall, hf, methodCallPos, calleeOf, hq, Bool.or_true, if_true, pure_bind]
  rfl
theorem methEq1 {y name : Str} {py apos pos : Pos} {y1 : Str} {p1 : Pos} {env : Env} (hq : (apos.endLine == pos.line) = true) : eval (.Call (.Attribute (.Name y py) name apos) [.Name y1 p1] [] pos) env = (do
      let ov ← eval (.Name y py) env
      standAt apos.atName
      let (f, first) ← holding [ov] (getMethod ov name (do return (← importBound (.Name y py) env).getD true))
      callWith pos f first (backTo pos (starEach [.Name y1 p1] env)) []) := by
  rw [arm_eval_Call]
  have hf : methodCallForm (([.Name y1 p1] : List Expr).length + ([] : List Keyword).length) (backTo pos (starEach [.Name y1 p1] env)) (backToKw pos (keywordEach [] env)) = true := rfl
  simp only [methodCall, hf, methodCallPos, calleeOf, hq, Bool.or_true, if_true, pure_bind]
  rfl

section
variable {C : Cfg} {k : Nat} {sc : Sc} {env : Env} {φ : Ph} {A : Around} {X : Addr → Prop} {E : Value → Shared → Prop} {s : Shared} {h h' : Heap} {ms : Ms}

theorem nodict_list {a : Addr} {vs : Array Value} {n : Nat} (g : s.heap.get? a = some (lstO vs n)) : s.heap.NoDictAt (.ref a) := ⟨_, g, rfl⟩

theorem insert_ok {a : Addr} {l : List D} {p : Int} {t : Tok} {d : D} {v : Value} {Q : Value → Shared → Prop} (H : HOk C s.heap) (hb : C.B.get? a = none) (xa : X a) (hl : HoldsL X s.heap a l) (r : Rp X s.heap d v) (h0 : 0 ≤ p) (h1 : p ≤ l.length) (h2 : l.length ≤ 1000)
    (h : ∀ h', HOk C h' → Kp (fun b => b = a) s.heap h' → HoldsL X h' a (l.take p.toNat ++ d :: l.drop p.toNat) → Q .none { s with heap := h' }) : wpAny (model C.prog C.w) A (call (.builtin "list.insert") [.ref a, .int p t, v]) Q E s := by
  obtain ⟨vs, n, g, rl⟩ := hl
  have hs := rl.length
  simp only [Array.length_toList] at hs
  refine call_meets PySem.F.slot_list_insert ⟨_, g, rfl⟩ PySem.F.entry_list_insert (PySem.F.args_list_insert_3 _ _ _) (AutoListH.list_insert_list_int_val_1 a vs n p t v (by simp [Builtin.List.listFitsIndex]; omega) (by rw [sizeLine_eq]; omega)) ⟨g, ?_⟩
  have sb := Heap.SameBut.update s.heap a (Obj.mapSeq fun xs => have k := if p < 0 then (p + ((xs.size : Nat) : Int)).toNat else min p.toNat xs.size; (xs.extract 0 k).push v ++ xs.extract k)
  have g' := Heap.get?_update_self (Obj.mapSeq fun xs => have k := if p < 0 then (p + ((xs.size : Nat) : Int)).toNat else min p.toNat xs.size; (xs.extract 0 k).push v ++ xs.extract k) g (by rfl)
  have kk : Kp (fun b => b = a) s.heap _ := .same sb rfl
  refine h _ (H.same sb hb (nja_list g)) kk ⟨_, _, g', ?_⟩
  have e : (if p < 0 then (p + ((vs.size : Nat) : Int)).toNat else min p.toNat vs.size) = p.toNat := by rw [if_neg (by omega)]; omega
  simp only [e]
  have r' : RpL X s.heap (l.take p.toNat ++ d :: l.drop p.toNat) (vs.toList.take p.toNat ++ v :: vs.toList.drop p.toNat) := (rl.take _).append (by simp only [RpL]; exact ⟨v, _, rfl, r, rl.drop _⟩)
  have := r'.kp kk (fun b q => q ▸ xa)
  simpa [Array.toList_extract, List.extract_eq_drop_take, List.take_of_length_le] using this

theorem append_ok {a : Addr} {l : List D} {d : D} {v : Value} {Q : Value → Shared → Prop} (H : HOk C s.heap) (hb : C.B.get? a = none) (xa : X a) (hl : HoldsL X s.heap a l) (r : Rp X s.heap d v) (h2 : l.length ≤ 1000)
    (h : ∀ h', HOk C h' → Kp (fun b => b = a) s.heap h' → HoldsL X h' a (l ++ [d]) → Q .none { s with heap := h' }) : wpAny (model C.prog C.w) A (call (.builtin "list.append") [.ref a, v]) Q E s := by
  obtain ⟨vs, n, g, rl⟩ := hl
  have hs := rl.length
  simp only [Array.length_toList] at hs
  refine wpAny_list_append_plain ⟨n, g⟩ (fun h' ⟨n', g'⟩ sb => ?_) (by rw [sizeLine_eq]; omega)
  have kk : Kp (fun b => b = a) s.heap h' := .same sb rfl
  refine h h' (H.same sb hb (nja_list g)) kk ⟨_, n', g', ?_⟩
  have := (rl.append (RpL.one r)).kp kk (fun b q => q ▸ xa)
  simpa using this
end
end Mine
namespace Mine
open PySem PySem.Spec PySem.Calls PyProof.Rows PySem.W
set_option linter.unusedVariables false
set_option maxRecDepth 100000

/-- a call that changes one list: fv on the list and ds turns what the list holds from l to l' -/
noncomputable def ProcOk (C : Cfg) (k : Nat) (fv : Value) (ds : List D) (l l' : List D) : Prop :=
  ∀ (A : Around) (X : Addr → Prop) (a : Addr) (vs : List Value) (s : Shared) (Q E : Value → Shared → Prop), Aok k A → HOk C s.heap → XOk C X s.heap → X a → C.B.get? a = none → HoldsL X s.heap a l → RpL X s.heap ds vs →
    (∀ h' tk, HOk C h' → Kp (fun b => C.Tb b ∨ b = a) s.heap h' → HoldsL X h' a l' → Q .none { s with heap := h', toks := tk }) → wpAny (model C.prog C.w) A (call fv (.ref a :: vs)) Q E s

set_option genInjectivity false in
set_option genSizeOfSpec false in
structure Ins where
  t : Expr
  lx : Str
  lxp : Pos
  e : Expr
  ap : Pos
  o : List Stmt
  ip : Pos
  ax : Str
  axp : Pos
  atp : Pos
  lxp2 : Pos
  xx : Str
  xxp : Pos
  cp : Pos
  ep : Pos
noncomputable def Ins.body (J : Ins) : List Stmt :=
  [.If J.t [.Assign [.Name J.lx J.lxp] J.e J.ap] J.o J.ip, .Expr (.Call (.Attribute (.Name J.ax J.axp) "insert" J.atp) [.Name J.lx J.lxp2, .Name J.xx J.xxp] [] J.cp) J.ep]

noncomputable def ins (G : Fn) (N : Nat) (sc : Sc) (pt : List Str) (dt : List D) (J : Ins) (l : List D) : Option (List D) :=
  (ev G N sc ((J.ax, .lst l) :: pt.zip dt) J.t).bind fun c => (truthD c).bind fun b => if b then
      (ev G N sc ((J.ax, .lst l) :: pt.zip dt) J.e).bind fun p => ((pt.zip dt).lookup J.xx).bind fun x => match p with
        | .int p => if decide (0 ≤ p) && decide (p ≤ l.length) && decide (l.length ≤ 1000) then some (l.take p.toNat ++ x :: l.drop p.toNat) else none
        | _ => none
    else none

noncomputable def Ins.ok (J : Ins) (sc : Sc) (pt : List Str) : Bool :=
  !pt.contains J.ax && kindSt sc J.lx && !(J.lx == J.ax) && !(J.xx == J.lx) && !(J.xx == J.ax) && J.atp.endLine == J.cp.line && sc.all (fun p => p.2 != .cell)

section
variable {C : Cfg} {k : Nat} {G : Fn} {N m : Nat}
theorem insort_ok {a : Addr} {fd : FuncData} {J : Ins} {pt : List Str} {ds ex : List D} {exv : List Value} {l l' : List D} (CO : CfgOk C) (GO : GOk C k G) (DA : DefAt C a fd J.body) (hsc : defSc fd.scope.names (J.ax :: pt) = true) (hJ : J.ok fd.scope.names pt = true)
    (hex : ∀ X h, RpL X h ex exv) (hb : ∀ (vs : List Value) (s : Shared), HOk C s.heap → vs.length = ds.length + 1 → BindsTo s fd ⟨vs, []⟩ ((J.ax :: pt).zip (vs ++ exv)))
    (hnl : ∀ elt gens scope pos, J.e ≠ .ListComp elt gens scope pos) (ev : ins G N fd.scope.names pt (ds ++ ex) J l = some l') : ProcOk C (k + 1) (.ref a) ds l l' := by
  intro A X L vs s Q E K H x xL hbL hl rv h
  simp only [Ins.ok, Bool.and_eq_true, Bool.not_eq_true', beq_iff_eq] at hJ
  obtain ⟨⟨⟨⟨⟨⟨j1, j2⟩, j3⟩, j4⟩, j5⟩, j6⟩, j7⟩ := hJ
  obtain ⟨vsL, nL, gL, rL⟩ := hl
  have nTb : ¬ C.Tb L := fun t => by
    obtain ⟨q, hq, rfl⟩ := t
    obtain ⟨ps', e2, _⟩ := H.tabs q hq
    rw [gL] at e2; cases e2
  have np : ∀ {y d}, (pt.zip (ds ++ ex)).lookup y = some d → y ≠ J.ax := fun {y d} e q => by
    have hm := List.of_mem_zip (mem_of_lookup e)
    subst q; simp [List.contains_iff_mem, hm.1] at j1
  refine enter_ok (X := X) (ds := .adr L :: (ds ++ ex)) (vs' := (.ref L :: vs) ++ exv) CO DA hsc K H x ?_ (hb _ s H (by simp [rv.length])) fun env s' hs kp fr F hcd hqu => ?_
  · simp only [List.cons_append, RpL]
    exact ⟨_, _, rfl, by simp only [Rp], rv.append (hex X _)⟩
  obtain ⟨h0, tk0, rfl⟩ := hs
  dsimp only at kp F
  have Kk : Aok k (A.deeper env) := K.deeper
  have EV := ev_ok CO GO N
  have nlL : L ≠ env.locals := fun q => by have := fr L (.inl q); rw [gL] at this; cases this
  have ncL : ∀ y c, env.cells.lookup y = some c → c ≠ L := fun y c hc q => by have := fr L (.inr ⟨y, q ▸ hc⟩); rw [gL] at this; cases this
  have sc0 : ∀ y, fd.scope.names.lookup y ≠ some .cell := fun y q => by
    have := List.all_eq_true.mp j7 _ (mem_lookup q)
    simp at this
  -- the frame, with the list apart
  have gL0 := kp _ _ gL
  have M0 : MFr C (fun b => (X b ∧ b ≠ L) ∨ b = env.locals ∨ ∃ y, env.cells.lookup y = some b) fd.scope.names env ((J.ax :: pt).zip (.adr L :: (ds ++ ex))) [(J.ax, L, l)] h0 := by
    have eX : Xm (fun b => (X b ∧ b ≠ L) ∨ b = env.locals ∨ ∃ y, env.cells.lookup y = some b) [(J.ax, L, l)] = fun b => X b ∨ b = env.locals ∨ ∃ y, env.cells.lookup y = some b := by
      funext b
      refine propext ⟨fun q => ?_, fun q => ?_⟩
      · rcases q with (q | q) | ⟨p, hp, e⟩
        · exact .inl q.1
        · exact .inr q
        · rw [List.mem_singleton] at hp; subst hp; exact .inl (e ▸ xL)
      · by_cases w : b = L
        · exact .inr ⟨_, List.mem_singleton.mpr rfl, w.symm⟩
        · exact .inl (q.imp (fun q => ⟨q, w⟩) id)
    have avL : ∀ b o, s.heap.get? b = some o → (X b ∨ b = env.locals ∨ ∃ y, env.cells.lookup y = some b) → X b := fun b o e q => q.elim id fun q => by rw [fr b q] at e; cases e
    refine ⟨by rw [eX]; exact F, fun b q => .inl ⟨x.tb b q, fun w => nTb (w ▸ q)⟩, .inr (.inl rfl), fun y c hc => .inr (.inr ⟨y, hc⟩), fun q hq => ?_, by simp, fun b o q => .inl ⟨x.bs b o q, fun w => by rw [w, hbL] at q; cases q⟩⟩
    rw [List.mem_singleton] at hq; subst hq
    refine ⟨⟨vsL, nL, gL0, ?_⟩, hbL, ?_, by rw [List.zip_cons_cons, List.lookup_cons]; simp⟩
    · rw [eX]
      exact (rL.av avL).kp (Y := fun _ => False) (fun b o _ e => kp b o e) fun _ q => q.elim
    · rintro (q | q | ⟨y, q⟩)
      · exact q.2 rfl
      · exact nlL q
      · exact ncL y _ q rfl
  generalize hX : (fun b => (X b ∧ b ≠ L) ∨ b = env.locals ∨ ∃ y, env.cells.lookup y = some b) = X1 at M0
  have vw : ∀ y d, ((J.ax, D.lst l) :: pt.zip (ds ++ ex)).lookup y = some d → (view [(J.ax, L, l)] ((J.ax :: pt).zip (.adr L :: (ds ++ ex)))).lookup y = some d := fun y d e => by
    rw [view, List.map_cons, List.map_nil, List.cons_append, List.nil_append, List.zip_cons_cons]
    rw [List.lookup_cons] at e ⊢
    by_cases w : y = J.ax
    · subst w; simpa using e
    · rw [beq_eq_false_iff_ne.mpr w] at e ⊢
      rw [List.lookup_cons, beq_eq_false_iff_ne.mpr w]; exact e
  simp only [ins, Option.bind_eq_some_iff] at ev
  obtain ⟨cnd, h2, b, h3, ev⟩ := ev
  induction b using Bool.casesOn with
  | false => simp at ev
  | true =>
    simp only [if_true, Option.bind_eq_some_iff] at ev
    obtain ⟨dp, h4, dx, h5, ev⟩ := ev
    cases dp <;> try (simp only [reduceCtorEq] at ev)
    rename_i p
    split at ev
    · rename_i hp
      cases ev
      simp only [Bool.and_eq_true, decide_eq_true_eq] at hp
      show wpAny _ _ (execs [.If J.t [.Assign [.Name J.lx J.lxp] J.e J.ap] J.o J.ip, .Expr (.Call (.Attribute (.Name J.ax J.axp) "insert" J.atp) [.Name J.lx J.lxp2, .Name J.xx J.xxp] [] J.cp) J.ep] env) _ _ _
      refine wpAny_execs_cons (wpAny_If (EV.2 _ _ env _ J.t cnd true h2 h3 _ { s with heap := h0, toks := tk0 } _ _ Kk (M0.seen.sub vw).st fun h1 tk1 H1 k1 => ?_))
      have M1 := M0.kp H1 k1
      simp only [if_true]
      refine wpAny_execs_cons (wpAny_Assign_Name (EV.1 _ _ env _ J.e _ h4 _ { s with heap := h1, toks := tk1 } _ _ Kk (M1.seen.sub vw).st fun v h2 tk2 H2 k2 r2 => ?_) (swaps_no h4 hnl))
      obtain ⟨t, rfl⟩ := r2.int_inv
      have M2 := M1.kp H2 k2
      refine MFr.stor (s := { s with heap := h2, toks := tk2 }) (d := .int p) M2 j2 (fun q hq w => ?_) (by simp only [Rp]; exact ⟨t, rfl⟩) fun h3 tk3 M3 k3 => ?_
      · rw [List.mem_singleton] at hq; subst hq
        rw [show J.lx = J.ax from w.symm] at j3; simp at j3
      have hint : interactive env = false := by unfold interactive; rw [F.st.e.fn]; rfl
      dsimp only at k3 k1 k2
      have hxx : J.xx ≠ J.lx := fun q => by rw [q] at j4; simp at j4
      have hxa : J.xx ≠ J.ax := fun q => by rw [q] at j5; simp at j5
      have hla : J.lx ≠ J.ax := fun q => by rw [q] at j3; simp at j3
      -- the rest of the block
      refine wpAny_execs_nil (wpAny_execs_cons (wpAny_Expr_any ?_ hint rfl))
      refine MethodCall_ (he := methEq2 (by simpa using j6)) (Name_ok (s := { s with heap := h3, toks := tk3 }) (d := .adr L) M3.fr.st (by rw [lookup_setA, if_neg (Ne.symm hla), List.zip_cons_cons, List.lookup_cons]; simp) fun v4 h4 tk4 H4 k4 r4 => ?_)
      simp only [Rp] at r4; subst r4
      have M4 := M3.kp H4 k4
      obtain ⟨⟨ws, nn, gg, _⟩, _⟩ := M4.ls _ (List.mem_singleton.mpr rfl)
      refine getMethod_list_of PySem.F.slot_list_insert PySem.F.type_list_insert ⟨_, gg, rfl, nn, rfl⟩ (nodict_list (s := { s with heap := h4, toks := tk4 }) gg) ?_
      refine callWith_method1 ?_
      have look : (setA J.lx (.int p) ((J.ax :: pt).zip (.adr L :: (ds ++ ex)))).lookup J.xx = some dx := by
        rw [lookup_setA, if_neg hxx, List.zip_cons_cons, List.lookup_cons, beq_eq_false_iff_ne.mpr hxa]; exact h5
      have lookl : (setA J.lx (.int p) ((J.ax :: pt).zip (.adr L :: (ds ++ ex)))).lookup J.lx = some (.int p) := by rw [lookup_setA, if_pos rfl]
      refine evs_ok (f := Mine.ev G (N + 1) fd.scope.names (setA J.lx (.int p) ((J.ax :: pt).zip (.adr L :: (ds ++ ex))))) ((ev_ok CO GO (N + 1)).1 _ _ _ _) Kk [.Name J.lx J.lxp2, .Name J.xx J.xxp] [.int p, dx] (evs_names2 lookl look) { s with heap := h4, toks := tk4 } _ _ M4.fr.st fun vs5 h5' tk5 H5 k5 r5 => ?_
      obtain ⟨v5, u5, rfl, r51, r52⟩ := two_args r5
      obtain ⟨t5, rfl⟩ := r51.int_inv
      have M5 := M4.kp H5 k5
      refine insert_ok (s := { s with heap := h5', toks := tk5 }) (X := Xm X1 [(J.ax, L, l)]) H5 hbL (.inr ⟨_, List.mem_singleton.mpr rfl, rfl⟩) (M5.ls _ (List.mem_singleton.mpr rfl)).1 r52 hp.1.1 hp.1.2 hp.2 fun h6 H6 k6 hl6 => ?_
      refine wpAny_execs_nil ?_
      refine h h6 tk5 H6 (fun b o nb eb => ?_) ?_
      · have nY : ¬ Yf C fd.scope.names env b := by
          rintro (q | q | ⟨y, q, _⟩)
          · exact nb (.inl q)
          · rw [fr b (.inl q)] at eb; cases eb
          · exact sc0 y q
        have nT : ¬ C.Tb b := fun q => nb (.inl q)
        exact k6 b o (fun q => nb (.inr q)) (k5 b o nT (k4 b o nT (k3 b o nY (k2 b o nT (k1 b o nT (kp b o eb))))))
      · obtain ⟨ws, n6, g6, r6⟩ := hl6
        exact ⟨ws, n6, g6, r6.av fun b o _ q => by
          by_cases w : b = L
          · exact .inr ⟨_, List.mem_singleton.mpr rfl, w.symm⟩
          · exact .inl (by rw [← hX]; exact .inl ⟨q, w⟩)⟩
    · cases ev
end
end Mine
namespace Mine
open PySem PySem.Spec PySem.Calls PyProof.Rows PySem.W
set_option linter.unusedVariables false
set_option maxRecDepth 100000

section
variable {C : Cfg} {k : Nat} {sc : Sc} {env : Env} {φ : Ph} {A : Around} {X : Addr → Prop} {E : Value → Shared → Prop} {s : Shared} {h h' : Heap} {ms : Ms}

theorem callB1_ok {f : Str} {id : String} {e : Expr} {p pos : Pos} {Q : Value → Shared → Prop} (CO : CfgOk C) (S : St C X sc env φ s.heap) (hdb : (f == ("__debug__" : Str)) = false) (hsc : sc.lookup f = some .globalImplicit) (gv : Gval C f (.builtin id))
    (hs : starEach [e] env = (false, eval e env) :: starEach [] env) (h : wpAny (model C.prog C.w) A (eval e env) (fun v s₁ => wpAny (model C.prog C.w) A (call (.builtin id) [v]) Q E s₁) E s) : wpAny (model C.prog C.w) A (eval (.Call (.Name f p) [e] [] pos) env) Q E s := by
  show wpAny (model C.prog C.w) A (do callWith pos (← eval (.Name f p) env) [] (backTo pos (starEach [e] env)) []) Q E s
  have hk : env.kindOf f = some .globalImplicit := by
    rcases S.e.kd f with q | ⟨q, _⟩
    · rw [q]; exact hsc
    · rw [hsc] at q; cases q
  refine wpAny_bind (Name_function_global S.e.fn hk (gval_load CO S gv ?_) hdb)
  exact callWith_builtin1 (spliced_more (wpAny_mono h (fun v s₁ h₁ => spliced_none h₁) fun _ _ q => q) hs) hs rfl

/-- a call that changes a list -/
theorem callP_ok {f : Str} {fv : Value} {args : List Expr} {p pos : Pos} {L : Addr} {ds : List D} {ff : Expr → Option D} {Q : Value → Shared → Prop} (CO : CfgOk C) (K : Aok k A) (F : FOk C k X sc env φ ff) (S : St C X sc env φ s.heap)
    (hdb : (f == ("__debug__" : Str)) = false) (hsc : sc.lookup f = some .globalImplicit) (gv : Gval C f fv) (kp : Keepable C fv) (ea : evs ff args = some (.adr L :: ds))
    (h : ∀ vs h' tk, HOk C h' → Kp C.Tb s.heap h' → RpL X h' ds vs → wpAny (model C.prog C.w) A (call fv (.ref L :: vs)) Q E { s with heap := h', toks := tk }) : wpAny (model C.prog C.w) A (eval (.Call (.Name f p) args [] pos) env) Q E s := by
  show wpAny (model C.prog C.w) A (do callWith pos (← eval (.Name f p) env) [] (backTo pos (starEach args env)) []) Q E s
  have hk : env.kindOf f = some .globalImplicit := by
    rcases S.e.kd f with q | ⟨q, _⟩
    · rw [q]; exact hsc
    · rw [hsc] at q; cases q
  refine wpAny_bind (Name_function_global S.e.fn hk (gval_load CO S gv ?_) hdb)
  refine callWith_of (P := HOk C) (by rw [starred_none ea]; rfl) kp ?_
  have body : wpAny (model C.prog C.w) A (spliced (backTo pos (starEach args env))) (fun vs s₁ => HOk C s₁.heap ∧ wpAny (model C.prog C.w) A (call fv ([] ++ vs) []) Q E s₁) E s := by
    refine evs_ok F K args _ ea s _ E S fun vs h' tk H k1 r => ⟨H, ?_⟩
    simp only [RpL, Rp] at r
    obtain ⟨v, vs', rfl, rfl, r'⟩ := r
    exact h vs' h' tk H k1 r'
  induction args using List.casesOn with
  | nil => exact nomatch evs_nil ea
  | cons e es =>
    have hs : starEach (e :: es) env = (false, eval e env) :: starEach es env := (evs_cons ea).1
    rw [hs] at body ⊢
    exact evalArgs_plain body

end
end Mine
namespace Mine
open PySem PySem.Spec PySem.Calls PyProof.Rows PySem.W
set_option linter.unusedVariables false
set_option maxRecDepth 100000

noncomputable abbrev AL := List ((Int × Int) × D)
noncomputable def dput (al : AL) (k : Int × Int) (d : D) : AL := if al.any (fun p => decide (p.1 = k)) then al.map (fun p => if p.1 = k then (p.1, d) else p) else al ++ [(k, d)]
noncomputable def pairsOf : List D → Option AL
  | [] => some []
  | .tup [.tup [.int i, .int j], d] :: r => (pairsOf r).map (((i, j), d) :: ·)
  | _ :: _ => none
theorem pairsOf_eq : ∀ {l : List D} {al : AL}, pairsOf l = some al → l = al.map fun p => .tup [keyD p.1, p.2]
  | [], al, h => by obtain rfl : [] = al := Option.some.inj h; rfl
  | d :: r, al, h => by
    obtain ⟨i, j, d', rfl⟩ : ∃ i j d', d = .tup [.tup [.int i, .int j], d'] := by
      induction d using D.casesOn with
      | tup l => induction l using List.casesOn with
        | nil => exact no' h
        | cons k l => induction k using D.casesOn with
          | tup m => induction m using List.casesOn with
            | nil => exact no' h
            | cons x m => induction x using D.casesOn with
              | int i => induction m using List.casesOn with
                | nil => exact no' h
                | cons y m => induction y using D.casesOn with
                  | int j => induction m using List.casesOn with
                    | nil => induction l using List.casesOn with
                      | nil => exact no' h
                      | cons d' l => induction l using List.casesOn with
                        | nil => exact ⟨i, j, d', rfl⟩
                        | cons => exact no' h
                    | cons => exact no' h
                  | _ => exact no' h
              | _ => exact no' h
          | _ => exact no' h
      | _ => exact no' h
    obtain ⟨al', h1, rfl⟩ := Option.map_eq_some_iff.mp (show (pairsOf r).map (((i, j), d') :: ·) = some al from h)
    rw [List.map_cons, ← pairsOf_eq h1]; rfl

section
variable {C : Cfg} {k : Nat} {X : Addr → Prop} {h : Heap}
/-- a dict's triples bear an association list -/
noncomputable def TripOk (X : Addr → Prop) (h : Heap) (x : List Int × Addr × Value) (p : (Int × Int) × D) : Prop :=
  x.1 = [p.1.1, p.1.2] ∧ (¬ X x.2.1 ∧ ∃ n t u, h.get? x.2.1 = some (tupO #[.int p.1.1 t, .int p.1.2 u] n)) ∧ Rp X h p.2 x.2.2
inductive Trips (X : Addr → Prop) (h : Heap) : List (List Int × Addr × Value) → AL → Prop
  | nil : Trips X h [] []
  | cons {x p xs al} : TripOk X h x p → Trips X h xs al → Trips X h (x :: xs) (p :: al)

theorem Trips.snoc {x : List Int × Addr × Value} {p : (Int × Int) × D} (y : TripOk X h x p) : ∀ {xs : List (List Int × Addr × Value)} {al : AL}, Trips X h xs al → Trips X h (xs ++ [x]) (al ++ [p])
  | _, _, .nil => .cons y .nil
  | _, _, .cons a b => .cons a (Trips.snoc y b)
theorem lst2 {a b c d : Int} : ([a, b] = [c, d]) ↔ ((a, b) = (c, d)) := by simp
theorem Trips.any {k : Int × Int} : ∀ {xs : List (List Int × Addr × Value)} {al : AL}, Trips X h xs al → (atKey xs [k.1, k.2]).isSome = al.any (fun p => decide (p.1 = k))
  | _, _, .nil => rfl
  | x :: xs, p :: al, .cons a b => by
    have ih := Trips.any (k := k) b
    have e : decide (x.1 = [k.1, k.2]) = decide (p.1 = k) := by
      rw [a.1]
      by_cases q : p.1 = k
      · subst q; simp
      · have : ¬ ([p.1.1, p.1.2] = [k.1, k.2]) := fun w => q (by simp at w; exact Prod.ext w.1 w.2)
        simp [q, this]
    unfold atKey at ih ⊢
    rw [List.find?_cons, List.any_cons, ← e]
    cases decide (x.1 = [k.1, k.2]) with
    | true => simp
    | false => simpa using ih
theorem Trips.upd {k : Int × Int} {d : D} {v : Value} (r : Rp X h d v) : ∀ {xs : List (List Int × Addr × Value)} {al : AL}, Trips X h xs al → Trips X h (xs.map (putAt [k.1, k.2] v)) (al.map fun p => if p.1 = k then (p.1, d) else p)
  | _, _, .nil => .nil
  | x :: xs, p :: al, .cons a b => by
    refine .cons ?_ (Trips.upd r b)
    show TripOk X h (putAt [k.1, k.2] v x) (if p.1 = k then (p.1, d) else p)
    unfold putAt
    by_cases q : p.1 = k
    · subst q
      rw [if_pos a.1, if_pos rfl]
      exact ⟨a.1, a.2.1, r⟩
    · have : ¬ (x.1 = [k.1, k.2]) := fun w => q (by rw [a.1] at w; simp at w; exact Prod.ext w.1 w.2)
      rw [if_neg this, if_neg q]
      exact a
theorem Trips.kp {Y : Addr → Prop} {h' : Heap} (kk : Kp Y h h') (s : ∀ b, Y b → X b) : ∀ {xs : List (List Int × Addr × Value)} {al : AL}, Trips X h xs al → Trips X h' xs al
  | _, _, .nil => .nil
  | _, _, .cons a b => .cons ⟨a.1, ⟨a.2.1.1, let ⟨n, t, u, g⟩ := a.2.1.2; ⟨n, t, u, kk _ _ (fun q => a.2.1.1 (s _ q)) g⟩⟩, a.2.2.kp kk s⟩ (Trips.kp kk s b)
theorem Trips.put {k : Int × Int} {d : D} {v : Value} {a : Addr} (y : TripOk X h ([k.1, k.2], a, v) (k, d)) {xs : List (List Int × Addr × Value)} {al : AL} (t : Trips X h xs al) : Trips X h (storedH xs [k.1, k.2] a v) (dput al k d) := by
  unfold storedH dput
  rw [t.any]
  by_cases q : (al.any fun p => decide (p.1 = k)) = true
  · rw [if_pos q, if_pos q]; exact t.upd y.2.2
  · rw [if_neg q, if_neg q]; exact t.snoc y
theorem Trips.fold : ∀ {ps : List (List Int × Addr × Value)} {ql : AL}, Trips X h ps ql → ∀ {xs : List (List Int × Addr × Value)} {al : AL}, Trips X h xs al →
    Trips X h (ps.foldl (fun xs p => storedH xs p.1 p.2.1 p.2.2) xs) (ql.foldl (fun al p => dput al p.1 p.2) al)
  | _, _, .nil, _, _, t => t
  | x :: ps, p :: ql, .cons a b, xs, al, t => by
    simp only [List.foldl_cons]
    refine Trips.fold b ?_
    rw [a.1]
    exact Trips.put (k := p.1) ⟨rfl, a.2.1, a.2.2⟩ t
theorem Trips.keys {prog : Program} {w : World} : ∀ {xs : List (List Int × Addr × Value)} {al : AL}, Trips X h xs al → KeysAt X h (al.map (·.1)) (xs.map (entryOfKey (ik prog w))) ∧ RpL X h (al.map (·.2)) ((xs.map (entryOfKey (ik prog w))).map (·.val)) ∧ xs.map (·.1) = (al.map (·.1)).map fun k => [k.1, k.2]
  | _, _, .nil => ⟨rfl, by simp [RpL], rfl⟩
  | x :: xs, p :: al, .cons a b => by
    obtain ⟨h1, h2, h3⟩ := Trips.keys (prog := prog) (w := w) b
    obtain ⟨n, t, u, g⟩ := a.2.1.2
    refine ⟨⟨_, _, rfl, ⟨?_, x.2.1, n, t, u, rfl, a.2.1.1, g⟩, h1⟩, ?_, by simp [a.1, h3]⟩
    · show (ik prog w).hash x.1 = _
      rw [a.1]; rfl
    · simp only [List.map_cons, RpL]
      exact ⟨_, _, rfl, a.2.2, h2⟩

/-- what dict(pairs) comes to -/
noncomputable def dmake (ql : AL) : D := let al := ql.foldl (fun al p => dput al p.1 p.2) []; .dct (al.map (·.1)) (al.map (·.2))

theorem dict_ok {l : List D} {ql : AL} (CO : CfgOk C) (hz : l.length ≤ 1000) (e : pairsOf l = some ql) : CallOk C k (.type "dict") [.lst l] (dmake ql) := by
  intro A X vs s Q E K H x r hR
  obtain ⟨v, rfl, r1⟩ := one_arg r
  obtain ⟨a, vs, n, rfl, _, g, rl⟩ := r1.lst_inv
  have hs := rl.length
  simp only [Array.length_toList] at hs
  -- the triples
  have trip : ∀ (ql : AL) (ws : List Value), RpL X s.heap (ql.map fun p => .tup [keyD p.1, p.2]) ws → ∃ ps : List (List Int × Addr × Value), ps.length = ws.length ∧ Trips X s.heap ps ql ∧ ∀ (j : Nat) p v, ps[j]? = some p → ws[j]? = some v → PairAt C.prog C.w s.heap v p := by
    intro ql
    induction ql with
    | nil =>
      intro ws y
      simp only [List.map_nil, RpL] at y
      subst y
      exact ⟨[], rfl, .nil, fun j p v e1 _ => by simp at e1⟩
    | cons q ql ih =>
      intro ws y
      simp only [List.map_cons, RpL] at y
      obtain ⟨v, ws, rfl, y1, y2⟩ := y
      obtain ⟨ps, h1, h2, h3⟩ := ih ws y2
      obtain ⟨t, tv, m, rfl, _, gt, rt⟩ := y1.tup_inv
      simp only [RpL] at rt
      obtain ⟨kv, w1, et, rk, dv, w2, rfl, rd, rfl⟩ := rt
      have etv : tv = #[kv, dv] := by apply Array.toList_inj.mp; rw [et]
      subst etv
      obtain ⟨ka, t1, u1, m1, rfl, hxk, gk⟩ := Rp.pair_inv (show Rp X s.heap (.tup [.int q.1.1, .int q.1.2]) kv from rk)
      refine ⟨([q.1.1, q.1.2], ka, dv) :: ps, by simp [h1], .cons ⟨rfl, ⟨hxk, _, _, _, gk⟩, rd⟩ h2, fun j p v e1 e2 => ?_⟩
      induction j using Nat.casesOn with
      | zero =>
        simp at e1 e2
        subst e1 e2
        exact ⟨t, m, rfl, gt, _, _, m1, gk, rfl, rfl, .cons (by simp [intKind, Value.isInt]) (.cons (by simp [intKind, Value.isInt]) .nil)⟩
      | succ j => simp at e1 e2; exact h3 j p v e1 e2
  rw [pairsOf_eq e] at rl
  obtain ⟨ps, h1, h2, h3⟩ := trip ql vs.toList rl
  simp only [Array.length_toList] at h1
  refine dictOf_ok K.handled (by have := K.units; omega) g (by omega) (by omega) (ps := ps) (fun j p v e1 e2 => h3 j p v e1 (by simpa using e2)) fun h' tk kk hd => ?_
  have kp : Kp C.Tb s.heap h' := .of kk
  have H' : HOk C h' := H.keeps kk
  have t2 : Trips X h' (ps.foldl (fun xs p => storedH xs p.1 p.2.1 p.2.2) []) (ql.foldl (fun al p => dput al p.1 p.2) []) := by
    exact Trips.fold (h2.kp kp x.tb) .nil
  obtain ⟨o, es, ep, e1, e2, e3, e4, e5, e6⟩ := hd
  obtain ⟨z1, z2, z3⟩ := t2.keys (prog := C.prog) (w := C.w)
  refine hR _ h' tk H' kp ?_
  have eo : o = dctO es ep := by
    obtain ⟨c, dd, dat, sl⟩ := o
    obtain ⟨q1, q2, q3⟩ := e2
    simp only at q1 q2 q3 e3
    subst q1 q2 q3 e3
    rfl
  subst eo
  simp only [dmake, Rp]
  refine ⟨_, es, ep, rfl, x.fresh, ?_, e1, ?_, by rw [e4]; exact z1, by rw [e4]; exact z2⟩
  · obtain ⟨o', es', ep', eg, _⟩ := CO.g
    have : mainGlobals < s.heap.objs.size := Heap.lt_size (H.base _ _ eg)
    exact beq_eq_false_iff_ne.mpr (fun q => by
      have h2 : s.heap.objs.size = 1 := q
      rw [h2] at this
      exact absurd this (by decide))
  · rw [z3] at e6
    exact (List.pairwise_map.mp e6).imp fun {a b} hne q => hne (by rw [q])
end
end Mine
namespace Mine
open PySem PySem.Spec PySem.Calls PyProof.Rows PySem.W
set_option linter.unusedVariables false
set_option maxRecDepth 100000

section
variable {C : Cfg} {k : Nat} {sc : Sc} {env : Env} {φ : Ph} {A : Around} {X : Addr → Prop} {E : Value → Shared → Prop} {s : Shared}

theorem list_ok {ks : List (Int × Int)} {l : List D} (hz : ks.length ≤ 1000) : CallOk C k (.type "list") [.itm ks l] (.lst (List.zipWith (fun k v => .tup [keyD k, v]) ks l)) := by
  intro A X vs s Q E K H x r hR
  obtain ⟨v, rfl, r1⟩ := one_arg r
  obtain ⟨u, a, es, ep, rfl, hu, gu, hx, hm, g, nd, y, z⟩ := r1.itm_inv
  have hs := y.length
  have hs2 := z.length
  simp only [List.length_map, Array.length_toList] at hs hs2
  refine listItems_ok K.handled (by omega) gu g fun h' tk acc c kk gS ha hitem => ?_
  have kp : Kp C.Tb s.heap h' := .of kk
  refine hR _ h' tk (H.keeps kk) kp ?_
  simp only [Rp]
  refine ⟨_, acc, c, rfl, x.fresh, gS, RpL.of_get (by rw [Array.length_toList, ha, List.length_zipWith]; omega) fun i d w e1 e2 => ?_⟩
  obtain ⟨q, v, k1, k2, rfl⟩ := zipW_get e1
  obtain ⟨kv, hk, rk⟩ := y.rpl.get (i := i) (d := keyD q) (by rw [List.getElem?_map, k1]; rfl)
  obtain ⟨vv, hv, rv⟩ := z.get k2
  rw [List.getElem?_map, Array.getElem?_toList] at hk hv
  cases he : es[i]? with
  | none => rw [he] at hk; cases hk
  | some e =>
    rw [he] at hk hv
    cases hk; cases hv
    obtain ⟨t, m, f1, f2, f3⟩ := hitem i e he
    rw [Array.getElem?_toList, f1] at e2
    cases e2
    simp only [Rp]
    refine ⟨t, _, m, rfl, fun w => ?_, f3, by simp only [RpL]; exact ⟨_, _, rfl, rk.kp kp x.tb, _, _, rfl, rv.kp kp x.tb, rfl⟩⟩
    obtain ⟨o, eo⟩ := x.ex _ w
    rw [f2] at eo; cases eo

/-- x, y = z : a pair is taken apart -/
theorem unpack2_ok {x y z : Str} {px py pt pz pos : Pos} {kt : Nat} {a b : D} {Q : Flow → Shared → Prop} (hA : A.handled = none) (F : FrOk C X sc env φ s.heap) (hz : φ.lookup z = some (.tup [a, b])) (hx : kindSt sc x = true) (hy : kindSt sc y = true)
    (h : ∀ h' tk, FrOk C X sc env (setA y b (setA x a φ)) h' → Kp (Yf C sc env) s.heap h' → Q .next { s with heap := h', toks := tk }) :
    wpAny (model C.prog C.w) A (exec (.Assign [.Tuple [.Name x px, .Name y py] kt pt] (.Name z pz) pos) env) Q E s := by
  refine Assign_Tuple (Name_ok (d := .tup [a, b]) F.st hz fun v h1 tk1 H1 k1 r1 => ?_) rfl rfl
  have F1 := F.kp H1 k1
  obtain ⟨t, vs, n, rfl, _, g, rr⟩ := r1.tup_inv
  simp only [RpL] at rr
  obtain ⟨v1, w1, e1, q1, v2, w2, rfl, q2, rfl⟩ := rr
  have ev : vs = #[v1, v2] := by apply Array.toList_inj.mp; rw [e1]
  subst ev
  refine wpAny_assign_Tuple (s := { s with heap := h1, toks := tk1 }) hA ⟨_, g, rfl, n, rfl⟩ rfl rfl fun h2 he2 => ?_
  have k2 : Kp (fun _ => False) h1 h2 := fun b o _ e => he2 b o (Nat.ne_of_lt (Heap.lt_size e)) e
  have F2 := F1.kp (H1.keeps fun b o e => k2 b o id e) (k2.mono fun _ q => q.elim)
  show wpAny _ _ (assignInOrder [assign (.Name x px) env, assign (.Name y py) env] [v1, v2]) _ _ _
  refine assignInOrder_cons (assign_ok (s := { s with heap := h2, toks := tk1 }) F2 hx (q1.kp k2 fun _ q => q.elim) fun h3 tk3 F3 k3 => ?_)
  refine assignInOrder_cons (assign_ok (s := { s with heap := h3, toks := tk3 }) F3 hy ((q2.kp k2 fun _ q => q.elim).kp k3 (Yf_X F2)) fun h4 tk4 F4 k4 => ?_)
  exact assignInOrder_nil (h h4 tk4 F4 (((k1.yf.trans (k2.mono fun _ q => q.elim)).trans k3).trans k4))

set_option genInjectivity false in
set_option genSizeOfSpec false in
/-- a def that first takes a pair apart -/
structure Nea where
  x : Str
  px : Pos
  y : Str
  py : Pos
  kt : Nat
  pt : Pos
  z : Str
  pz : Pos
  pos : Pos
  rest : List Stmt
noncomputable def Nea.body (J : Nea) : List Stmt := .Assign [.Tuple [.Name J.x J.px, .Name J.y J.py] J.kt J.pt] (.Name J.z J.pz) J.pos :: J.rest
noncomputable def near (G : Fn) (N : Nat) (sc : Sc) (ps : List Str) (ds : List D) (J : Nea) : Option D := match (ps.zip ds).lookup J.z with
  | some (.tup [a, b]) => (exB (exS G N N sc) J.rest (setA J.y b (setA J.x a (ps.zip ds)))).bind (·.2)
  | _ => none
theorem near_ok {G : Fn} {N : Nat} {a : Addr} {fd : FuncData} {J : Nea} {ps : List Str} {ds : List D} {r : D} (CO : CfgOk C) (GO : GOk C k G) (DA : DefAt C a fd J.body) (hsc : defSc fd.scope.names ps = true) (hx : kindSt fd.scope.names J.x = true) (hy : kindSt fd.scope.names J.y = true)
    (hb : ∀ (vs : List Value) (s : Shared), HOk C s.heap → vs.length = ds.length → BindsTo s fd ⟨vs, []⟩ (ps.zip vs)) (ev : near G N fd.scope.names ps ds J = some r) : CallOk C (k + 1) (.ref a) ds r := by
  intro A X vs s Q E K H x rv h
  unfold near at ev
  split at ev
  · rename_i d1 d2 hz
    simp only [Option.bind_eq_some_iff] at ev
    obtain ⟨⟨φ', o⟩, h1, h2⟩ := ev
    dsimp only at h2
    subst h2
    refine enter_ok CO DA hsc K H x rv (hb vs s H rv.length) fun env s' hs kp fr F _ _ => ?_
    obtain ⟨h1', tk1, rfl⟩ := hs
    refine wpAny_execs_cons (unpack2_ok K.handled F hz hx hy fun h2 tk2 F2 k2 => ?_)
    refine exB_ok (exS_ok CO GO N N _) J.rest _ _ h1 (A.deeper env) _ env _ _ _ K.deeper F2 fun h' tk Z k' v rv' => ?_
    refine h v h' tk Z.st.H (fun b o nb eb => ?_) (rv'.av fun b _ _ q => .inl q)
    have nY : ¬ Yf C fd.scope.names env b := by
      rintro (q | q | ⟨y, _, q⟩)
      · exact nb q
      · rw [fr b (.inl q)] at eb; cases eb
      · rw [fr b (.inr ⟨y, q⟩)] at eb; cases eb
    exact k' b o nY (k2 b o nY (kp b o eb))
  · cases ev
end
end Mine
namespace Mine
open PySem PySem.Spec PySem.Calls PyProof.Rows PySem.W
set_option linter.unusedVariables false
set_option maxRecDepth 100000

section
variable {C : Cfg} {k : Nat} {sc : Sc} {env : Env} {φ : Ph} {A : Around} {X : Addr → Prop} {E : Value → Shared → Prop} {s : Shared} {h h' : Heap} {ms : Ms} {I : Addr}

/-- a for loop over a list that grows meanwhile -/
theorem forG_ok {x wx : Str} {p pos wp : Pos} {b : List Stmt} {Lw : Addr} {n : Nat} {Q : Flow → Shared → Prop} (K : Aok k A) (F : MFr C X sc env φ ms s.heap) (hx : kindLo sc x = true) (hw : φ.lookup wx = some (.adr Lw))
    (P : Nat → Nat → Ph → Ms → Prop) (h3 : P n 0 φ ms) (hmd : ∀ m i φ' ms', P m i φ' ms' → (∀ q ∈ ms', q.1 ≠ x) ∧ (∀ b, Md ms' b ↔ Md ms b) ∧ ∃ w, (wx, Lw, w) ∈ ms' ∧ i ≤ w.length ∧ (i < w.length → ∃ m', m = m' + 1))
    (turn : ∀ m i d φ' ms' w, P (m + 1) i φ' ms' → (wx, Lw, w) ∈ ms' → w[i]? = some d → ∀ (X' : Addr → Prop) (s' : Shared), MFr C X' sc env (setA x d φ') ms' s'.heap → (∀ b, X b → X' b) → (∃ h' tk, s' = { s with heap := h', toks := tk }) →
      ∀ (Q' : Flow → Shared → Prop) (E' : Value → Shared → Prop), (∀ φ'' ms'' h'' tk'', P m (i + 1) φ'' ms'' → MFr C X' sc env φ'' ms'' h'' → Kp (Ym C sc env ms) s'.heap h'' → Q' .next { s with heap := h'', toks := tk'' }) → wpAny (model C.prog C.w) A (execs b env) Q' E' s')
    (fin : ∀ m φ' ms' w h' tk, P m w.length φ' ms' → (wx, Lw, w) ∈ ms' → MFr C X sc env φ' ms' h' → Kp (Ym C sc env ms) s.heap h' → Q .next { s with heap := h', toks := tk }) :
    wpAny (model C.prog C.w) A (exec (.For (.Name x p) (.Name wx wp) b [] pos) env) Q E s := by
  have hx' : kindSt sc x = true := by
    simp only [kindLo, Bool.and_eq_true] at hx
    simp only [kindSt, Bool.and_eq_true, Bool.or_eq_true]; exact ⟨hx.1, .inl hx.2⟩
  refine wpAny_For (Name_ok (d := .adr Lw) F.fr.st hw fun v h1 tk1 H1 k1 r1 => ?_) (fun x => rfl)
  simp only [Rp] at r1
  subst r1
  have Z1 := F.kp H1 k1
  obtain ⟨_, _, w0, hw0, _⟩ := hmd _ _ _ _ h3
  obtain ⟨⟨vs0, n0, g0, _⟩, _⟩ := Z1.ls _ hw0
  refine wpAny_pyIter_list (s := { s with heap := h1, toks := tk1 }) (items := vs0) ⟨_, g0, rfl, n0, rfl⟩ ?_
  have fr := get_size h1
  have gI0 : (h1.push { cls := .type "list_iterator", data := .fields #[.ref Lw, .int 0 0] }).get? h1.objs.size = some { cls := .type "list_iterator", data := .fields #[.ref Lw, .int 0 0] } := Heap.get?_push_size _ rfl
  have kp0 : ∀ b o, h1.get? b = some o → (h1.push { cls := .type "list_iterator", data := .fields #[.ref Lw, .int 0 0] }).get? b = some o := fun b o e => Heap.get?_push_of_some _ e
  have H0 := H1.push { cls := .type "list_iterator", data := .fields #[.ref Lw, .int 0 0] }
  dsimp only
  generalize h1.push { cls := .type "list_iterator", data := .fields #[.ref Lw, .int 0 0] } = h2 at *
  generalize h1.objs.size = I at *
  have neX : ∀ b, Xm X ms b → b ≠ I := fun b hb q => by obtain ⟨o, e⟩ := Z1.fr.st.x.ex b hb; rw [q, fr] at e; cases e
  have Z2 : MFr C (fun b => X b ∨ b = I) sc env φ ms h2 := Z1.grow fr kp0 H0 ⟨_, gI0⟩
  have nYI : ¬ Ym C sc env ms I := by
    rintro ((q | q | ⟨y, _, q⟩) | q)
    · exact neX _ (.inl (F.tb _ q)) rfl
    · exact neX _ (.inl F.xl) q.symm
    · exact neX _ (.inl (F.xc _ _ q)) rfl
    · exact neX _ (.inr q) rfl
  have IB := H1.baseNone fr
  have iL : I ≠ env.locals := Ne.symm (neX _ (.inl F.xl))
  have iC : ∀ y c, env.cells.lookup y = some c → c ≠ I := fun y c hc => neX _ (.inl (F.xc y c hc))
  have nLI : Lw ≠ I := neX _ (.inr ⟨_, hw0, rfl⟩)
  have njI : ∀ {h : Heap} {i : Nat}, h.IsListIter I Lw i → ¬ JA h I := fun {h i} ⟨o, e, c, d⟩ ⟨o', vs, e', d', q⟩ => by
    rw [e] at e'; cases e'
    rw [d] at d'; cases d'
    rcases q with q | ⟨s, t, q⟩
    · rw [c] at q; cases q
    · simp at q
  refine codeAny_forLoop (fun m s' => ∃ i φ' ms' h' tk, s' = { s with heap := h', toks := tk } ∧ MFr C (fun b => X b ∨ b = I) sc env φ' ms' h' ∧ h'.IsListIter I Lw i ∧ Kp (fun b => Ym C sc env ms b ∨ b = I) s.heap h' ∧ P m i φ' ms') ?_ n
    ⟨0, φ, ms, h2, tk1, rfl, Z2, ⟨_, gI0, rfl, rfl⟩, (k1.mono fun b q => .inl (.inl (.inl q))).trans (.of kp0), h3⟩
  rintro m s' ⟨i, φ', ms', h', tk, rfl, Z', it', k', ef⟩
  obtain ⟨hnx, hiff, w, hwm, hiw, hfu⟩ := hmd _ _ _ _ ef
  obtain ⟨⟨vs, nn, g, rl⟩, _⟩ := Z'.ls _ hwm
  have hlen := rl.length
  simp only [Array.length_toList] at hlen
  have eX : Xm (fun b => X b ∨ b = I) ms' = fun b => Xm X ms b ∨ b = I := by
    rw [Xm_or]
    funext b
    exact propext (or_congr_left (or_congr_right (hiff b)))
  by_cases hi : i < w.length
  · obtain ⟨m', rfl⟩ := hfu hi
    obtain ⟨d, hd⟩ : ∃ d, w[i]? = some d := ⟨_, List.getElem?_eq_getElem hi⟩
    obtain ⟨v, hv, rv⟩ := rl.get hd
    refine wpAny_pyNext_list_item it' ⟨_, g, rfl, nn, rfl⟩ (x := v) (by simpa using hv) fun h3' it3 hs3 => ?_
    have k3 : Kp (fun b => b = I) h' h3' := .same hs3 rfl
    have Z3 : MFr C (fun b => X b ∨ b = I) sc env φ' ms' h3' := Z'.other k3 (.inr rfl) IB (njI it') (let ⟨o, e, _⟩ := it3; ⟨o, e⟩) iL iC
    refine MFr.bind (s := { s with heap := h3', toks := tk }) Z3 hx' hnx (rv.kp k3 fun b q => .inl (.inr q)) fun h4 tk4 Z4 k4 => ?_
    have sub' : ∀ b, Ym C sc env ms' b → Ym C sc env ms b := fun b q => q.imp id (hiff b).mp
    have itk : ∀ {h5 h6 : Heap} {i : Nat}, Kp (Ym C sc env ms) h5 h6 → h5.IsListIter I Lw i → h6.IsListIter I Lw i := fun kk ⟨o, e, r⟩ => ⟨o, kk _ _ nYI e, r⟩
    have it4 := itk (k4.mono sub') it3
    have k04 : Kp (fun b => Ym C sc env ms b ∨ b = I) s.heap h4 := (k'.trans (k3.mono fun b q => .inr q)).trans (k4.mono fun b q => .inl (sub' b q))
    refine turn m' i d φ' ms' w ef hwm hd _ _ Z4 (fun b q => .inl q) ⟨h4, tk4, rfl⟩ _ _ fun φ5 ms5 h5 tk5 P5 Z5 k5 => ?_
    exact ⟨m', Nat.lt_succ_self _, i + 1, φ5, ms5, h5, tk5, rfl, Z5, itk k5 it4, k04.trans (k5.mono fun b q => .inl q), P5⟩
  · have hi' : i = w.length := by omega
    subst hi'
    refine wpAny_pyNext_list_end K.handled it' ⟨_, g, rfl, nn, rfl⟩ (Array.getElem?_eq_none (by omega)) fun h'' hs => wpAny_execs_nil ?_
    have kk : Kp (fun b => b = I) h' h'' := fun b o nb eb => hs b o nb eb
    refine fin m φ' ms' w h'' tk ef hwm (Z'.letGo kk (fun b q => neX b (.inl q)) F.tb F.xl F.xc IB (njI it') F.bs) fun b o nb eb => ?_
    have bI : b ≠ I := by rintro rfl; have := k1 _ _ (fun q => nYI (.inl (.inl q))) eb; rw [fr] at this; cases this
    exact kk b o bI (k' b o (fun q => q.elim nb bI) eb)
end
end Mine
namespace Mine
open PySem PySem.Spec PySem.Calls PyProof.Rows PySem.W
set_option linter.unusedVariables false
set_option maxRecDepth 100000

set_option genInjectivity false in
set_option genSizeOfSpec false in
/-- the shape of the def that goes across the board -/
structure Acr where
  s0 : Stmt
  wx : Str
  wxp : Pos
  we : Expr
  wp : Pos
  ox : Str
  oxp : Pos
  olp : Pos
  op : Pos
  cx : Str
  cxp : Pos
  w2p : Pos
  inm : Str
  i1p : Pos
  a1p : Pos
  a2p : Pos
  c1p : Pos
  e1p : Pos
  f1p : Pos
  cx2p : Pos
  w3p : Pos
  t1 : Expr
  tb : List Stmt
  t1p : Pos
  thx : Str
  thxp : Pos
  ne : Expr
  t3 : Expr
  i2p : Pos
  a3p : Pos
  a4p : Pos
  c2p : Pos
  e2p : Pos
  w4p : Pos
  atp : Pos
  th2p : Pos
  c3p : Pos
  e3p : Pos
  t3p : Pos
  f3p : Pos
  f2p : Pos
  re : Expr
  rp : Pos
noncomputable def Acr.b1 (J : Acr) : List Stmt := [.Expr (.Call (.Name J.inm J.i1p) [.Name J.ox J.a1p, .Name J.cx J.a2p] [] J.c1p) J.e1p]
noncomputable def Acr.b3 (J : Acr) : List Stmt := [.If J.t3 [.Expr (.Call (.Name J.inm J.i2p) [.Name J.ox J.a3p, .Name J.thx J.a4p] [] J.c2p) J.e2p, .Expr (.Call (.Attribute (.Name J.wx J.w4p) "append" J.atp) [.Name J.thx J.th2p] [] J.c3p) J.e3p] [] J.t3p]
noncomputable def Acr.b2 (J : Acr) : List Stmt := [.If J.t1 J.tb [] J.t1p, .For (.Name J.thx J.thxp) J.ne J.b3 [] J.f3p]
noncomputable def Acr.body (J : Acr) : List Stmt :=
  [J.s0, .Assign [.Name J.wx J.wxp] J.we J.wp, .Assign [.Name J.ox J.oxp] (.List [] J.olp) J.op, .For (.Name J.cx J.cxp) (.Name J.wx J.w2p) J.b1 [] J.f1p, .For (.Name J.cx J.cx2p) (.Name J.wx J.w3p) J.b2 [] J.f2p, .Return (some J.re) J.rp]

section
variable (G : Fn) (ins : D → List D → Option (List D)) (N : Nat) (sc : Sc) (J : Acr) (φ : Ph)
noncomputable def acrIns : List D → List D → Option (List D)
  | [], o => some o
  | d :: r, o => (ins d o).bind (acrIns r)
noncomputable def acrThere (cell : D) : List D → List D → List D → Option (List D × List D)
  | [], w, o => some (w, o)
  | th :: r, w, o => (ev G N sc ((J.wx, .lst w) :: (J.ox, .lst o) :: (J.thx, th) :: (J.cx, cell) :: φ) J.t3).bind fun c => (truthD c).bind fun b => if b then
      (ins th o).bind fun o' => if solid th && decide (w.length ≤ 900) then acrThere cell r (w ++ [th]) o' else none
    else acrThere cell r w o
noncomputable def acrLoop : Nat → Nat → List D → List D → Option (List D × List D)
  | n, i, w, o => match w[i]? with
    | none => some (w, o)
    | some cell => match n with
      | 0 => none
      | n + 1 => (ev G N sc ((J.wx, .lst w) :: (J.ox, .lst o) :: (J.cx, cell) :: φ) J.t1).bind fun c => (truthD c).bind fun b => if b then none else
          (ev G N sc ((J.cx, cell) :: φ) J.ne).bind fun l => (itemsD l).bind fun its => (acrThere G ins N sc J φ cell its w o).bind fun st => acrLoop n (i + 1) st.1 st.2
end
noncomputable def acrF (G : Fn) (ins : D → List D → Option (List D)) (N : Nat) (sc : Sc) (J : Acr) (ps : List Str) (fuel : Nat) (ds : List D) : Option D :=
  (exS G N N sc (ps.zip ds) J.s0).bind fun o1 => match o1.2 with
    | some _ => none
    | none => (ev G N sc o1.1 J.we).bind fun w0 => match w0 with
      | .lst w0 => if solidL w0 && decide (w0.length ≤ 1000) && o1.1.all (fun p => solid p.2) && o1.1.all (fun p => !(p.1 == J.wx) && !(p.1 == J.ox) && !(p.1 == J.cx) && !(p.1 == J.thx)) then
          (acrIns ins w0 []).bind fun o0 => if solidL o0 then (acrLoop G ins N sc J o1.1 fuel 0 w0 o0).bind fun st => ev G N sc ((J.wx, .lst st.1) :: (J.ox, .lst st.2) :: o1.1) J.re else none
        else none
      | _ => none

noncomputable def Acr.ok (J : Acr) (sc : Sc) : Bool :=
  sc.lookup J.wx == some .local && sc.lookup J.ox == some .local && kindSt sc J.wx && kindSt sc J.ox && kindLo sc J.cx && kindLo sc J.thx && sc.lookup J.inm == some .globalImplicit && !(J.inm == ("__debug__" : Str))
    && decide [J.wx, J.ox, J.cx, J.thx].Nodup && J.atp.endLine == J.c3p.line

section
variable {C : Cfg} {k : Nat} {G : Fn} {ins : D → List D → Option (List D)} {N : Nat} {sc : Sc} {J : Acr} {env : Env} {φ : Ph} {A : Around} {X : Addr → Prop} {E : Value → Shared → Prop} {s : Shared} {fv : Value}

theorem lk_cons {x y : Str} {d : D} {φ : Ph} : List.lookup y ((x, d) :: φ) = if y = x then some d else φ.lookup y := by
  rw [List.lookup_cons]
  by_cases q : y = x
  · subst q; simp
  · rw [beq_eq_false_iff_ne.mpr q, if_neg q]

/-- what the body of the innermost loop does -/
theorem acrB3_ok (CO : CfgOk C) (GO : GOk C k G) (hJ : J.ok sc = true) (gv : Gval C J.inm fv) (kpf : Keepable C fv) (hins : ∀ x l l', ins x l = some l' → ProcOk C k fv [x] l l') (K : Aok k A) {Lw Lo : Addr} {cell th : D} {w o w' o' : List D} {r : List D}
    (hφ : ∀ p ∈ φ, p.1 ≠ J.wx ∧ p.1 ≠ J.ox ∧ p.1 ≠ J.cx ∧ p.1 ≠ J.thx)
    (M : MFr C X sc env ((J.wx, .adr Lw) :: (J.ox, .adr Lo) :: (J.thx, th) :: (J.cx, cell) :: φ) [(J.wx, Lw, w), (J.ox, Lo, o)] s.heap)
    (e : acrThere G ins N sc J φ cell (th :: r) w o = some (w', o')) {Q : Flow → Shared → Prop}
    (h : ∀ w1 o1 h' tk, acrThere G ins N sc J φ cell r w1 o1 = some (w', o') → MFr C X sc env ((J.wx, .adr Lw) :: (J.ox, .adr Lo) :: (J.thx, th) :: (J.cx, cell) :: φ) [(J.wx, Lw, w1), (J.ox, Lo, o1)] h' →
      Kp (fun b => C.Tb b ∨ b = Lw ∨ b = Lo) s.heap h' → Q .next { s with heap := h', toks := tk }) : wpAny (model C.prog C.w) A (execs J.b3 env) Q E s := by
  simp only [Acr.ok, Bool.and_eq_true, beq_iff_eq, Bool.not_eq_true', decide_eq_true_eq] at hJ
  obtain ⟨⟨⟨⟨⟨⟨⟨⟨⟨j1, j2⟩, j3⟩, j4⟩, j5⟩, j6⟩, j7⟩, j8⟩, j9⟩, j10⟩ := hJ
  have EV := ev_ok CO GO N
  simp only [List.nodup_cons, List.mem_cons, List.not_mem_nil, or_false, not_or, List.nodup_nil, and_true] at j9
  obtain ⟨⟨n1, n2, n3⟩, ⟨n4, n5⟩, n6, _⟩ := j9
  have hint : interactive env = false := by unfold interactive; rw [M.fr.st.e.fn]; rfl
  simp only [acrThere, Option.bind_eq_some_iff] at e
  obtain ⟨c, h1, b, h2, e⟩ := e
  have vw : ∀ {h : Heap}, MFr C X sc env ((J.wx, .adr Lw) :: (J.ox, .adr Lo) :: (J.thx, th) :: (J.cx, cell) :: φ) [(J.wx, Lw, w), (J.ox, Lo, o)] h → FrOk C X sc env ((J.wx, .lst w) :: (J.ox, .lst o) :: (J.thx, th) :: (J.cx, cell) :: φ) h := fun M => M.seen.sub fun y d hy => by
    rw [view, List.map_cons, List.map_cons, List.map_nil, List.cons_append, List.cons_append, List.nil_append]
    simp only [lk_cons] at hy ⊢
    by_cases q1 : y = J.wx
    · rw [if_pos q1] at hy ⊢; exact hy
    · rw [if_neg q1] at hy ⊢
      by_cases q2 : y = J.ox
      · rw [if_pos q2] at hy ⊢; exact hy
      · rw [if_neg q2] at hy ⊢
        rw [if_neg q1, if_neg q2]; exact hy
  refine wpAny_execs_cons (wpAny_If (EV.2 X sc env _ J.t3 c b h1 h2 A s _ E K (vw M).st fun h3 tk3 H3 k3 => ?_))
  have M3 := M.kp H3 k3
  induction b using Bool.casesOn with
  | false =>
    simp only [Bool.false_eq_true, if_false] at e ⊢
    exact wpAny_execs_nil (wpAny_execs_nil (h w o h3 tk3 e M3 (k3.mono fun b q => .inl q)))
  | true =>
    simp only [if_true, Option.bind_eq_some_iff] at e ⊢
    obtain ⟨o1, h4, e⟩ := e
    split at e
    · rename_i hth
      simp only [Bool.and_eq_true, decide_eq_true_eq] at hth
      have mo : (J.ox, Lo, o) ∈ [(J.wx, Lw, w), (J.ox, Lo, o)] := List.mem_cons_of_mem _ List.mem_cons_self
      have neW : Lw ≠ Lo := by
        have := M.ap
        simp at this
        exact this
      -- insort
      refine wpAny_execs_cons (wpAny_Expr_any ?_ hint rfl)
      refine callP_ok (s := { s with heap := h3, toks := tk3 }) (L := Lo) (ds := [th]) (ff := ev G (N + 1) sc _) CO K ((ev_ok CO GO (N + 1)).1 _ sc env _) M3.fr.st j8 j7 gv kpf ?_ fun vs4 h5 tk5 H5 k5 r5 => ?_
      · refine evs_names2 ?_ ?_ <;> simp only [lk_cons, if_neg (Ne.symm n1), if_neg (Ne.symm n3), if_neg (Ne.symm n5), if_true]
      have M5 := M3.kp H5 k5
      obtain ⟨hl5, hb5, _⟩ := M5.ls _ mo
      refine hins th o o1 h4 A _ Lo vs4 { s with heap := h5, toks := tk5 } _ _ K H5 M5.fr.st.x (.inr ⟨_, mo, rfl⟩) hb5 hl5 r5 fun h6 tk6 H6 k6 hl6 => ?_
      have M6 := M5.change (a := Lo) ⟨_, mo, rfl⟩ H6 k6 hl6
      have es6 : setM Lo o1 [(J.wx, Lw, w), (J.ox, Lo, o)] = [(J.wx, Lw, w), (J.ox, Lo, o1)] := by simp [setM, neW]
      rw [es6] at M6
      -- append
      have mw : (J.wx, Lw, w) ∈ [(J.wx, Lw, w), (J.ox, Lo, o1)] := List.mem_cons_self
      refine wpAny_execs_cons (wpAny_Expr_any ?_ hint rfl)
      refine MethodCall_ (he := methEq1 (by simpa using j10)) (Name_ok (s := { s with heap := h6, toks := tk6 }) (d := .adr Lw) M6.fr.st (by rw [lk_cons, if_pos rfl]) fun v7 h7 tk7 H7 k7 r7 => ?_)
      simp only [Rp] at r7; subst r7
      have M7 := M6.kp H7 k7
      obtain ⟨⟨ws, nn, gg, _⟩, _⟩ := M7.ls _ mw
      refine getMethod_list_of F.slot_list_append F.type_list_append ⟨_, gg, rfl, nn, rfl⟩ (nodict_list (s := { s with heap := h7, toks := tk7 }) gg) ?_
      refine callWith_method1 ?_
      refine evs_ok (f := ev G (N + 1) sc _) ((ev_ok CO GO (N + 1)).1 _ sc env _) K [.Name J.thx J.th2p] [th] ?_ { s with heap := h7, toks := tk7 } _ _ M7.fr.st fun vs8 h8 tk8 H8 k8 r8 => ?_
      · refine evs_names1 ?_; simp only [lk_cons, if_neg (Ne.symm n3), if_neg (Ne.symm n5), if_true]
      obtain ⟨v8, rfl, r8'⟩ := one_arg r8
      have M8 := M7.kp H8 k8
      obtain ⟨hl8, hb8, _⟩ := M8.ls _ mw
      refine append_ok (s := { s with heap := h8, toks := tk8 }) H8 hb8 (.inr ⟨_, mw, rfl⟩) hl8 r8' (by show w.length ≤ 1000; omega) fun h9 H9 k9 hl9 => ?_
      have M9 := M8.change (a := Lw) ⟨_, mw, rfl⟩ H9 (k9.mono fun b q => .inr q) hl9
      have es9 : setM Lw (w ++ [th]) [(J.wx, Lw, w), (J.ox, Lo, o1)] = [(J.wx, Lw, w ++ [th]), (J.ox, Lo, o1)] := by simp [setM, Ne.symm neW]
      rw [es9] at M9
      refine wpAny_execs_nil (wpAny_execs_nil (h _ _ h9 tk8 e M9 ?_))
      exact ((((k3.trans k5).mono fun b q => .inl q).trans (k6.mono fun b q => q.imp id .inr)).trans ((k7.trans k8).mono fun b q => .inl q)).trans (k9.mono fun b q => .inr (.inl q))
    · cases e
end
end Mine
namespace Mine
open PySem PySem.Spec PySem.Calls PyProof.Rows PySem.W
set_option linter.unusedVariables false
set_option maxRecDepth 100000

section
variable {C : Cfg} {k : Nat} {G : Fn} {ins : D → List D → Option (List D)} {N : Nat} {sc : Sc} {J : Acr} {env : Env} {φ : Ph} {A : Around} {X : Addr → Prop} {E : Value → Shared → Prop} {s : Shared} {fv : Value} {Lw Lo : Addr}

noncomputable abbrev acrMs (J : Acr) (Lw Lo : Addr) (w o : List D) : Ms := [(J.wx, Lw, w), (J.ox, Lo, o)]
theorem acrMd {w o w1 o1 : List D} {b : Addr} : Md (acrMs J Lw Lo w o) b ↔ Md (acrMs J Lw Lo w1 o1) b := by simp [Md]
theorem acrKp {w o : List D} {h h' : Heap} (k : Kp (fun b => C.Tb b ∨ b = Lw ∨ b = Lo) h h') : Kp (Ym C sc env (acrMs J Lw Lo w o)) h h' := k.mono fun b q => by
  rcases q with q | q | q
  · exact .inl (.inl q)
  · exact .inr ⟨_, List.mem_cons_self, q.symm⟩
  · exact .inr ⟨_, List.mem_cons_of_mem _ List.mem_cons_self, q.symm⟩
theorem Ym_md {ms ms' : Ms} (e : ∀ b, Md ms b ↔ Md ms' b) : Ym C sc env ms = Ym C sc env ms' := funext fun b => propext (or_congr_right (e b))

theorem acrThere_len {cell : D} : ∀ {r w o w' o' : List D}, acrThere G ins N sc J φ cell r w o = some (w', o') → w.length ≤ w'.length
  | [], w, o, w', o', e => by simp only [acrThere, Option.some.injEq, Prod.mk.injEq] at e; rw [e.1]; exact Nat.le_refl _
  | th :: r, w, o, w', o', e => by
    simp only [acrThere, Option.bind_eq_some_iff] at e
    obtain ⟨c, _, b, _, e⟩ := e
    induction b using Bool.casesOn with
    | false => exact acrThere_len (by simpa using e)
    | true =>
      simp only [if_true, Option.bind_eq_some_iff] at e
      obtain ⟨o1, _, e⟩ := e
      split at e
      · have := acrThere_len e
        simp at this; omega
      · cases e

theorem acrFor3_ok (CO : CfgOk C) (GO : GOk C k G) (hJ : J.ok sc = true) (gv : Gval C J.inm fv) (kpf : Keepable C fv) (hins : ∀ x l l', ins x l = some l' → ProcOk C k fv [x] l l') (K : Aok k A) {cell l : D} {its w o w' o' : List D} {pos p3 : Pos}
    (hφ : ∀ p ∈ φ, p.1 ≠ J.wx ∧ p.1 ≠ J.ox ∧ p.1 ≠ J.cx ∧ p.1 ≠ J.thx)
    (M : MFr C X sc env ((J.wx, .adr Lw) :: (J.ox, .adr Lo) :: (J.cx, cell) :: φ) (acrMs J Lw Lo w o) s.heap) (he : ev G N sc ((J.cx, cell) :: φ) J.ne = some l) (hi : itemsD l = some its)
    (e : acrThere G ins N sc J φ cell its w o = some (w', o')) {Q : Flow → Shared → Prop}
    (h : ∀ h' tk, MFr C X sc env ((J.wx, .adr Lw) :: (J.ox, .adr Lo) :: (J.cx, cell) :: φ) (acrMs J Lw Lo w' o') h' → Kp (Ym C sc env (acrMs J Lw Lo w o)) s.heap h' → Q .next { s with heap := h', toks := tk }) :
    wpAny (model C.prog C.w) A (exec (.For (.Name J.thx p3) J.ne J.b3 [] pos) env) Q E s := by
  have hJ' := hJ
  simp only [Acr.ok, Bool.and_eq_true, beq_iff_eq, Bool.not_eq_true', decide_eq_true_eq] at hJ'
  obtain ⟨⟨⟨⟨⟨⟨⟨⟨⟨j1, j2⟩, j3⟩, j4⟩, j5⟩, j6⟩, j7⟩, j8⟩, j9⟩, j10⟩ := hJ'
  simp only [List.nodup_cons, List.mem_cons, List.not_mem_nil, or_false, not_or, List.nodup_nil, and_true] at j9
  obtain ⟨⟨n1, n2, n3⟩, ⟨n4, n5⟩, n6, _⟩ := j9
  have nφ : ∀ {y d}, φ.lookup y = some d → y ≠ J.wx ∧ y ≠ J.ox ∧ y ≠ J.cx ∧ y ≠ J.thx := fun {y d} q => hφ _ (mem_of_lookup q)
  refine forM_ok (G := G) (N := N) CO GO K M j6 (fun rest φ' ms' => ∃ w1 o1, ms' = acrMs J Lw Lo w1 o1 ∧ acrThere G ins N sc J φ cell rest w1 o1 = some (w', o') ∧ ∀ y d, ((J.wx, D.adr Lw) :: (J.ox, D.adr Lo) :: (J.cx, cell) :: φ).lookup y = some d → φ'.lookup y = some d)
    (φe := (J.cx, cell) :: φ) (fun y d q => ?_) he hi ⟨w, o, rfl, e, fun _ _ q => q⟩ ?_ ?_ ?_
  · simp only [lk_cons] at q ⊢
    by_cases q1 : y = J.cx
    · rw [if_pos q1] at q
      rw [q1, if_neg (Ne.symm n2), if_neg (Ne.symm n4), if_pos rfl]; exact q
    · rw [if_neg q1] at q
      rw [if_neg (nφ q).1, if_neg (nφ q).2.1, if_neg q1]; exact q
  · rintro rest φ' ms' ⟨w1, o1, rfl, _, _⟩
    refine ⟨fun q hq => ?_, fun b => acrMd⟩
    simp only [acrMs, List.mem_cons, List.not_mem_nil, or_false] at hq
    rcases hq with rfl | rfl
    · exact n3
    · exact n5
  · rintro th rest φ' ms' ⟨w1, o1, rfl, e1, hs⟩ X' s' M' _ ⟨h', tk', rfl⟩ Q' E' hQ
    have M2 : MFr C X' sc env ((J.wx, .adr Lw) :: (J.ox, .adr Lo) :: (J.thx, th) :: (J.cx, cell) :: φ) (acrMs J Lw Lo w1 o1) h' := by
      refine M'.sub (fun y d q => ?_) fun q hq => ?_
      · rw [lookup_setA]
        simp only [lk_cons] at q
        by_cases q1 : y = J.thx
        · rw [q1, if_neg (Ne.symm n3), if_neg (Ne.symm n5), if_pos rfl] at q
          rw [if_pos q1]; exact q
        · rw [if_neg q1]
          refine hs y d ?_
          simp only [lk_cons]
          by_cases a1 : y = J.wx
          · rw [if_pos a1] at q ⊢; exact q
          · rw [if_neg a1] at q ⊢
            by_cases a2 : y = J.ox
            · rw [if_pos a2] at q ⊢; exact q
            · rw [if_neg a2, if_neg q1] at q
              rw [if_neg a2]; exact q
      · simp only [acrMs, List.mem_cons, List.not_mem_nil, or_false] at hq
        rcases hq with rfl | rfl
        · simp only [lk_cons, if_true]
        · simp only [lk_cons, if_neg (Ne.symm n1), if_true]
    refine acrB3_ok (s := { s with heap := h', toks := tk' }) CO GO hJ gv kpf hins K hφ M2 e1 fun w2 o2 h2 tk2 e2 M3 k3 => ?_
    refine hQ _ _ h2 tk2 ⟨w2, o2, rfl, e2, fun y d q => ?_⟩ M3 (acrKp k3)
    simp only [lk_cons] at q ⊢
    by_cases a1 : y = J.wx
    · rw [if_pos a1] at q ⊢; exact q
    · rw [if_neg a1] at q ⊢
      by_cases a2 : y = J.ox
      · rw [if_pos a2] at q ⊢; exact q
      · rw [if_neg a2] at q ⊢
        by_cases a3 : y = J.thx
        · exfalso
          rw [a3, if_neg (Ne.symm n6)] at q
          exact (nφ q).2.2.2 rfl
        · rw [if_neg a3]; exact q
  · rintro φ' ms' h' tk' ⟨w1, o1, rfl, e1, hs⟩ M' k'
    simp only [acrThere, Option.some.injEq, Prod.mk.injEq] at e1
    obtain ⟨rfl, rfl⟩ := e1
    refine h h' tk' (M'.sub hs fun q hq => ?_) k'
    simp only [acrMs, List.mem_cons, List.not_mem_nil, or_false] at hq
    rcases hq with rfl | rfl
    · simp only [lk_cons, if_true]
    · simp only [lk_cons, if_neg (Ne.symm n1), if_true]

theorem acrFor2_ok (CO : CfgOk C) (GO : GOk C k G) (hJ : J.ok sc = true) (gv : Gval C J.inm fv) (kpf : Keepable C fv) (hins : ∀ x l l', ins x l = some l' → ProcOk C k fv [x] l l') (K : Aok k A) {n : Nat} {w o w' o' : List D}
    (hφ : ∀ p ∈ φ, p.1 ≠ J.wx ∧ p.1 ≠ J.ox ∧ p.1 ≠ J.cx ∧ p.1 ≠ J.thx)
    (M : MFr C X sc env ((J.wx, .adr Lw) :: (J.ox, .adr Lo) :: φ) (acrMs J Lw Lo w o) s.heap) (e : acrLoop G ins N sc J φ n 0 w o = some (w', o')) {Q : Flow → Shared → Prop}
    (h : ∀ h' tk, MFr C X sc env ((J.wx, .adr Lw) :: (J.ox, .adr Lo) :: φ) (acrMs J Lw Lo w' o') h' → Kp (Ym C sc env (acrMs J Lw Lo w o)) s.heap h' → Q .next { s with heap := h', toks := tk }) :
    wpAny (model C.prog C.w) A (exec (.For (.Name J.cx J.cx2p) (.Name J.wx J.w3p) J.b2 [] J.f2p) env) Q E s := by
  have hJ' := hJ
  simp only [Acr.ok, Bool.and_eq_true, beq_iff_eq, Bool.not_eq_true', decide_eq_true_eq] at hJ'
  obtain ⟨⟨⟨⟨⟨⟨⟨⟨⟨j1, j2⟩, j3⟩, j4⟩, j5⟩, j6⟩, j7⟩, j8⟩, j9⟩, j10⟩ := hJ'
  simp only [List.nodup_cons, List.mem_cons, List.not_mem_nil, or_false, not_or, List.nodup_nil, and_true] at j9
  obtain ⟨⟨n1, n2, n3⟩, ⟨n4, n5⟩, n6, _⟩ := j9
  have EV := ev_ok CO GO N
  have nφ : ∀ {y d}, φ.lookup y = some d → y ≠ J.wx ∧ y ≠ J.ox ∧ y ≠ J.cx ∧ y ≠ J.thx := fun {y d} q => hφ _ (mem_of_lookup q)
  have lms : ∀ {w o : List D} {φ' : Ph} (q), q ∈ acrMs J Lw Lo w o → ((J.wx, D.adr Lw) :: (J.ox, D.adr Lo) :: φ').lookup q.1 = some (.adr q.2.1) := fun {w o φ'} q hq => by
    simp only [acrMs, List.mem_cons, List.not_mem_nil, or_false] at hq
    rcases hq with rfl | rfl
    · simp only [lk_cons, if_true]
    · simp only [lk_cons, if_neg (Ne.symm n1), if_true]
  refine forG_ok (wx := J.wx) (Lw := Lw) (n := n) K M j5 (by simp only [lk_cons, if_true]) (fun m i φ' ms' => ∃ w1 o1, ms' = acrMs J Lw Lo w1 o1 ∧ acrLoop G ins N sc J φ m i w1 o1 = some (w', o') ∧ i ≤ w1.length ∧ ∀ y d, ((J.wx, D.adr Lw) :: (J.ox, D.adr Lo) :: φ).lookup y = some d → φ'.lookup y = some d)
    ⟨w, o, rfl, e, Nat.zero_le _, fun _ _ q => q⟩ ?_ ?_ ?_
  · rintro m i φ' ms' ⟨w1, o1, rfl, e1, hi, _⟩
    refine ⟨fun q hq => ?_, fun b => acrMd, w1, List.mem_cons_self, hi, fun hlt => ?_⟩
    · simp only [acrMs, List.mem_cons, List.not_mem_nil, or_false] at hq
      rcases hq with rfl | rfl
      · exact n2
      · exact n4
    · induction m using Nat.casesOn with
      | zero => rw [acrLoop, List.getElem?_eq_getElem hlt] at e1; cases e1
      | succ m => exact ⟨m, rfl⟩
  · rintro m i cell φ' ms' w2 ⟨w1, o1, rfl, e1, hi, hs⟩ hwm hd X' s' M' _ ⟨h', tk', rfl⟩ Q' E' hQ
    have : w2 = w1 := by
      simp only [acrMs, List.mem_cons, Prod.mk.injEq, true_and, List.not_mem_nil, or_false] at hwm
      rcases hwm with q | ⟨q, _⟩
      · exact q
      · exact absurd q n1
    subst this
    rw [acrLoop, hd] at e1
    simp only [Option.bind_eq_some_iff] at e1
    obtain ⟨c, h1, b, h2, e1⟩ := e1
    induction b using Bool.casesOn with
    | true => simp at e1
    | false =>
      simp only [Bool.false_eq_true, if_false, Option.bind_eq_some_iff] at e1
      obtain ⟨l, h3, its, h4, ⟨w3, o3⟩, h5, h6⟩ := e1
      have M2 : MFr C X' sc env ((J.wx, .adr Lw) :: (J.ox, .adr Lo) :: (J.cx, cell) :: φ) (acrMs J Lw Lo w2 o1) h' := by
        refine M'.sub (fun y d q => ?_) lms
        rw [lookup_setA]
        simp only [lk_cons] at q
        by_cases q1 : y = J.cx
        · rw [q1, if_neg (Ne.symm n2), if_neg (Ne.symm n4), if_pos rfl] at q
          rw [if_pos q1]; exact q
        · rw [if_neg q1]
          refine hs y d ?_
          simp only [lk_cons]
          by_cases a1 : y = J.wx
          · rw [if_pos a1] at q ⊢; exact q
          · rw [if_neg a1] at q ⊢
            by_cases a2 : y = J.ox
            · rw [if_pos a2] at q ⊢; exact q
            · rw [if_neg a2, if_neg q1] at q
              rw [if_neg a2]; exact q
      have V2 : FrOk C X' sc env ((J.wx, .lst w2) :: (J.ox, .lst o1) :: (J.cx, cell) :: φ) h' := M2.seen.sub fun y d hy => by
        rw [view, List.map_cons, List.map_cons, List.map_nil, List.cons_append, List.cons_append, List.nil_append]
        simp only [lk_cons] at hy ⊢
        by_cases q1 : y = J.wx
        · rw [if_pos q1] at hy ⊢; exact hy
        · rw [if_neg q1] at hy ⊢
          by_cases q2 : y = J.ox
          · rw [if_pos q2] at hy ⊢; exact hy
          · rw [if_neg q2] at hy ⊢
            rw [if_neg q1, if_neg q2]; exact hy
      refine wpAny_execs_cons (wpAny_If (EV.2 X' sc env _ J.t1 c false h1 h2 A { s with heap := h', toks := tk' } _ _ K V2.st fun h7 tk7 H7 k7 => ?_))
      have M7 := M2.kp H7 k7
      simp only [Bool.false_eq_true, if_false]
      refine wpAny_execs_nil (wpAny_execs_cons (acrFor3_ok (s := { s with heap := h7, toks := tk7 }) CO GO hJ gv kpf hins K hφ M7 h3 h4 h5 fun h8 tk8 M8 k8 => ?_))
      refine wpAny_execs_nil (hQ _ _ h8 tk8 ⟨w3, o3, rfl, h6, ?_, fun y d q => ?_⟩ M8 ?_)
      · have := acrThere_len h5
        have := (List.getElem?_eq_some_iff.mp hd).1
        omega
      · simp only [lk_cons] at q ⊢
        by_cases a1 : y = J.wx
        · rw [if_pos a1] at q ⊢; exact q
        · rw [if_neg a1] at q ⊢
          by_cases a2 : y = J.ox
          · rw [if_pos a2] at q ⊢; exact q
          · rw [if_neg a2] at q ⊢
            rw [if_neg (nφ q).2.2.1]; exact q
      · rw [Ym_md (ms' := acrMs J Lw Lo w o) (fun b => acrMd)] at k8
        exact (k7.mono fun b q => .inl (.inl q)).trans k8
  · rintro m φ' ms' w2 h' tk' ⟨w1, o1, rfl, e1, hi, hs⟩ hwm M' k'
    have : w2 = w1 := by
      simp only [acrMs, List.mem_cons, Prod.mk.injEq, true_and, List.not_mem_nil, or_false] at hwm
      rcases hwm with q | ⟨q, _⟩
      · exact q
      · exact absurd q n1
    subst this
    rw [acrLoop, List.getElem?_eq_none (Nat.le_refl _)] at e1
    simp only [Option.some.injEq, Prod.mk.injEq] at e1
    obtain ⟨rfl, rfl⟩ := e1
    exact h h' tk' (M'.sub hs lms) k'
end
end Mine
namespace Mine
open PySem PySem.Spec PySem.Calls PyProof.Rows PySem.W
set_option linter.unusedVariables false
set_option maxRecDepth 100000

section
variable {C : Cfg} {k : Nat} {G : Fn} {ins : D → List D → Option (List D)} {N : Nat} {sc : Sc} {J : Acr} {env : Env} {φ : Ph} {A : Around} {X : Addr → Prop} {E : Value → Shared → Prop} {s : Shared} {fv : Value} {Lw Lo : Addr}

mutual
theorem Rp.nolist {X P : Addr → Prop} {h : Heap} (hm : ∀ b, P b → ∃ o, h.get? b = some o ∧ o.cls = .type "list") : ∀ {d : D} {v : Value}, Mine.solid d = true → Rp X h d v → Rp (fun b => X b ∨ P b) h d v
  | .none, _, _, x => x
  | .bool _, _, _, x => x
  | .int _, _, _, x => x
  | .adr _, _, _, x => x
  | .tup l, _, e, x => by
    simp only [Rp] at x ⊢
    simp only [Mine.solid] at e
    obtain ⟨a, vs, n, e1, hx, g, r⟩ := x
    refine ⟨a, vs, n, e1, fun q => ?_, g, RpL.nolist hm e r⟩
    rcases q with q | q
    · exact hx q
    · obtain ⟨o, e3, e4⟩ := hm _ q
      rw [g] at e3; cases e3; simp at e4
  | .lst _, _, e, _ => by simp [Mine.solid] at e
  | .rng _ _, _, e, _ => by simp [Mine.solid] at e
  | .dct ks vs, _, e, x => by
    simp only [Mine.solid] at e
    simp only [Rp] at x ⊢
    obtain ⟨a, es, ep, e1, hx, hs, g, nd, y, r⟩ := x
    have keys : ∀ {ks : List (Int × Int)} {l : List DictEntry}, KeysAt X h ks l → KeysAt (fun b => X b ∨ P b) h ks l := by
      intro ks
      induction ks with
      | nil => intro l z; exact z
      | cons k ks ih =>
        intro l z
        obtain ⟨e, r, e1, ⟨e2, a, n, t, u, e3, hx, g⟩, z'⟩ := z
        refine ⟨e, r, e1, ⟨e2, a, n, t, u, e3, fun q => ?_, g⟩, ih z'⟩
        rcases q with q | q
        · exact hx q
        · obtain ⟨o, e5, e6⟩ := hm _ q
          rw [g] at e5; cases e5; simp at e6
    refine ⟨a, es, ep, e1, fun q => ?_, hs, g, nd, keys y, RpL.nolist hm e r⟩
    rcases q with q | q
    · exact hx q
    · obtain ⟨o, e3, e4⟩ := hm _ q
      rw [g] at e3; cases e3; simp at e4
  | .itm .., _, e, _ => by simp [Mine.solid] at e
theorem RpL.nolist {X P : Addr → Prop} {h : Heap} (hm : ∀ b, P b → ∃ o, h.get? b = some o ∧ o.cls = .type "list") : ∀ {l : List D} {vs : List Value}, solidL l = true → RpL X h l vs → RpL (fun b => X b ∨ P b) h l vs
  | [], _, _, x => x
  | d :: l, _, e, x => by
    simp only [RpL] at x ⊢
    simp only [solidL, Bool.and_eq_true] at e
    obtain ⟨v, r, e1, a, b⟩ := x
    exact ⟨v, r, e1, Rp.nolist hm e.1 a, RpL.nolist hm e.2 b⟩
end
/-- all lists that are there are shunned -/
theorem FrOk.nolist (F : FrOk C X sc env φ s.heap) (hs : ∀ y d, φ.lookup y = some d → solid d = true) : FrOk C (fun b => X b ∨ ∃ o, s.heap.get? b = some o ∧ o.cls = .type "list") sc env φ s.heap := by
  have z := F.st.e
  refine ⟨⟨F.st.H, ⟨fun b q => .inl (F.st.x.tb b q), fun b q => ?_, fun b o q => .inl (F.st.x.bs b o q)⟩, ⟨z.fn, z.gl, z.bl, z.nl, .inl z.xl, z.nc, fun y c q => .inl (z.xc y c q), z.kd, z.cl, fun y d q => ?_⟩⟩, F.ns, F.lB, F.cx, F.ap⟩
  · rcases q with q | ⟨o, e, _⟩
    · exact F.st.x.ex b q
    · exact ⟨o, e⟩
  · obtain ⟨h1, h2, v, rv, w⟩ := z.ld y d q
    exact ⟨h1, h2, v, rv.nolist (fun b q => q) (hs y d q), w⟩

/-- x = [] : the list stands apart from then on -/
theorem newList_ok {x : Str} {p lp pos : Pos} {Q : Flow → Shared → Prop} (F : FrOk C X sc env φ s.heap) (hx : kindSt sc x = true)
    (h : ∀ L h' tk, s.heap.get? L = none → MFr C X sc env (setA x (.adr L) φ) [(x, L, [])] h' → Kp (Yf C sc env) s.heap h' → Q .next { s with heap := h', toks := tk }) :
    wpAny (model C.prog C.w) A (exec (.Assign [.Name x p] (.List [] lp) pos) env) Q E s := by
  refine wpAny_Assign_Name (List_ (spliced_none (wpAny_newObj_type ?_ (by show (#[] : Array Value).size ≤ sizeLine; rw [sizeLine_eq]; simp)))) rfl
  generalize hL : s.heap.objs.size = L
  have fr : s.heap.get? L = none := hL ▸ get_size s.heap
  generalize h2d : s.heap.push (lstO #[] 0) = h2
  have k2 : ∀ b o, s.heap.get? b = some o → h2.get? b = some o := fun b o e => h2d ▸ Heap.get?_push_of_some _ e
  have g2 : h2.get? L = some (lstO #[] 0) := by rw [← h2d, ← hL]; exact Heap.get?_push_size _ rfl
  have F2 : FrOk C (fun b => X b ∨ b = L) sc env φ h2 := F.grow fr k2 (F.st.H.keeps k2) ⟨_, g2⟩
  refine store_ok (d := .adr L) (s := { s with heap := h2 }) F2 hx (by simp only [Rp]) fun h3 tk3 F3 k3 => ?_
  have k3' : Kp (Yf C sc env) h2 h3 := k3.mono fun b q => .inr q
  have nX : ¬ X L := fun q => by obtain ⟨o, e⟩ := F.st.x.ex _ q; rw [fr] at e; cases e
  have nYL : ¬ Yf C sc env L := fun q => nX (Yf_X F _ q)
  have eX : Xm X [(x, L, [])] = fun b => X b ∨ b = L := funext fun b => propext (or_congr_right ⟨fun ⟨q, hq, e⟩ => by
      rw [List.mem_singleton] at hq; subst hq; exact e.symm, fun e => ⟨_, List.mem_singleton.mpr rfl, e.symm⟩⟩)
  refine h L h3 tk3 fr ⟨by rw [eX]; exact F3, F.st.x.tb, F.st.e.xl, F.st.e.xc, fun q hq => ?_, by simp, F.st.x.bs⟩ ((Kp.of k2).trans k3')
  rw [List.mem_singleton] at hq; subst hq
  exact ⟨⟨#[], 0, k3' _ _ nYL g2, by simp [RpL]⟩, F.st.H.baseNone fr, nX, by rw [lookup_setA, if_pos rfl]⟩

theorem acrFor1_ok (CO : CfgOk C) (GO : GOk C k G) (hJ : J.ok sc = true) (gv : Gval C J.inm fv) (kpf : Keepable C fv) (hins : ∀ x l l', ins x l = some l' → ProcOk C k fv [x] l l') (K : Aok k A) {w0 o' : List D}
    (hφ : ∀ p ∈ φ, p.1 ≠ J.wx ∧ p.1 ≠ J.ox ∧ p.1 ≠ J.cx ∧ p.1 ≠ J.thx) (hz : w0.length ≤ 1000)
    (M : MFr C X sc env ((J.ox, .adr Lo) :: (J.wx, .lst w0) :: φ) [(J.ox, Lo, [])] s.heap) (e : acrIns ins w0 [] = some o') {Q : Flow → Shared → Prop}
    (h : ∀ h' tk, MFr C X sc env ((J.ox, .adr Lo) :: (J.wx, .lst w0) :: φ) [(J.ox, Lo, o')] h' → Kp (Ym C sc env [(J.ox, Lo, [])]) s.heap h' → Q .next { s with heap := h', toks := tk }) :
    wpAny (model C.prog C.w) A (exec (.For (.Name J.cx J.cxp) (.Name J.wx J.w2p) J.b1 [] J.f1p) env) Q E s := by
  have hJ' := hJ
  simp only [Acr.ok, Bool.and_eq_true, beq_iff_eq, Bool.not_eq_true', decide_eq_true_eq] at hJ'
  obtain ⟨⟨⟨⟨⟨⟨⟨⟨⟨j1, j2⟩, j3⟩, j4⟩, j5⟩, j6⟩, j7⟩, j8⟩, j9⟩, j10⟩ := hJ'
  simp only [List.nodup_cons, List.mem_cons, List.not_mem_nil, or_false, not_or, List.nodup_nil, and_true] at j9
  obtain ⟨⟨n1, n2, n3⟩, ⟨n4, n5⟩, n6, _⟩ := j9
  have nφ : ∀ {y d}, φ.lookup y = some d → y ≠ J.wx ∧ y ≠ J.ox ∧ y ≠ J.cx ∧ y ≠ J.thx := fun {y d} q => hφ _ (mem_of_lookup q)
  have hint : interactive env = false := by unfold interactive; rw [M.fr.st.e.fn]; rfl
  have md : ∀ (a b : List D) x, Md [(J.ox, Lo, a)] x ↔ Md [(J.ox, Lo, b)] x := fun a b x => by simp [Md]
  refine forM_ok (G := G) (N := 0 + 1) CO GO K M j5 (fun rest φ' ms' => ∃ o1, ms' = [(J.ox, Lo, o1)] ∧ acrIns ins rest o1 = some o' ∧ ∀ y d, ((J.ox, D.adr Lo) :: (J.wx, D.lst w0) :: φ).lookup y = some d → φ'.lookup y = some d)
    (d := .lst w0) (its := w0) (fun _ _ q => q) ?_ (by simp [itemsD, hz]) ⟨[], rfl, e, fun _ _ q => q⟩ ?_ ?_ ?_
  · simp only [ev_Name, lk_cons, if_neg n1, if_true]
  · rintro rest φ' ms' ⟨o1, rfl, _, _⟩
    refine ⟨fun q hq => ?_, fun b => md _ _ b⟩
    rw [List.mem_singleton] at hq; subst hq; exact n4
  · rintro d rest φ' ms' ⟨o1, rfl, e1, hs⟩ X' s' M' _ ⟨h', tk', rfl⟩ Q' E' hQ
    simp only [acrIns, Option.bind_eq_some_iff] at e1
    obtain ⟨o2, h1, h2⟩ := e1
    have mo : (J.ox, Lo, o1) ∈ [(J.ox, Lo, o1)] := List.mem_singleton.mpr rfl
    refine wpAny_execs_cons (wpAny_Expr_any ?_ hint rfl)
    refine callP_ok (s := { s with heap := h', toks := tk' }) (L := Lo) (ds := [d]) (ff := ev G (0 + 1) sc _) CO K ((ev_ok CO GO (0 + 1)).1 _ sc env _) M'.fr.st j8 j7 gv kpf ?_ fun vs4 h5 tk5 H5 k5 r5 => ?_
    · have l1 : (setA J.cx d φ').lookup J.ox = some (.adr Lo) := (M'.ls _ mo).2.2.2
      have l2 : (setA J.cx d φ').lookup J.cx = some d := by rw [lookup_setA, if_pos rfl]
      exact evs_names2 l1 l2
    have M5 := M'.kp H5 k5
    obtain ⟨hl5, hb5, _⟩ := M5.ls _ mo
    refine hins d o1 o2 h1 A _ Lo vs4 { s with heap := h5, toks := tk5 } _ _ K H5 M5.fr.st.x (.inr ⟨_, mo, rfl⟩) hb5 hl5 r5 fun h6 tk6 H6 k6 hl6 => ?_
    have M6 := M5.change (a := Lo) ⟨_, mo, rfl⟩ H6 k6 hl6
    simp only [setM, List.map_cons, List.map_nil, if_true] at M6
    refine wpAny_execs_nil (hQ _ _ h6 tk6 ⟨o2, rfl, h2, fun y d' q => ?_⟩ M6 ?_)
    · have hyc : y ≠ J.cx := fun w => by
        rw [w] at q
        simp only [lk_cons, if_neg (Ne.symm n4), if_neg (Ne.symm n2)] at q
        exact (nφ q).2.2.1 rfl
      rw [lookup_setA, if_neg hyc]; exact hs y d' q
    · refine (k5.mono fun b q => .inl (.inl q)).trans (k6.mono fun b q => ?_)
      rcases q with q | q
      · exact .inl (.inl q)
      · exact .inr ⟨_, List.mem_singleton.mpr rfl, q.symm⟩
  · rintro φ' ms' h' tk' ⟨o1, rfl, e1, hs⟩ M' k'
    simp only [acrIns, Option.some.injEq] at e1
    subst e1
    exact h h' tk' (M'.sub hs fun q hq => by rw [List.mem_singleton] at hq; subst hq; simp only [lk_cons, if_true]) k'

theorem acr_ok {a : Addr} {fd : FuncData} {ps : List Str} {ds : List D} {r : D} {fuel : Nat} (CO : CfgOk C) (GO : GOk C k G) (DA : DefAt C a fd J.body) (hsc : defSc fd.scope.names ps = true) (hJ : J.ok fd.scope.names = true)
    (hb : ∀ (vs : List Value) (s : Shared), HOk C s.heap → vs.length = ds.length → BindsTo s fd ⟨vs, []⟩ (ps.zip vs)) (gv : Gval C J.inm fv) (kpf : Keepable C fv) (hins : ∀ x l l', ins x l = some l' → ProcOk C k fv [x] l l')
    (e : acrF G ins N fd.scope.names J ps fuel ds = some r) : CallOk C (k + 1) (.ref a) ds r := by
  intro A X vs s Q E K H x rv h
  have hJ' := hJ
  simp only [Acr.ok, Bool.and_eq_true, beq_iff_eq, Bool.not_eq_true', decide_eq_true_eq] at hJ'
  obtain ⟨⟨⟨⟨⟨⟨⟨⟨⟨j1, j2⟩, j3⟩, j4⟩, j5⟩, j6⟩, j7⟩, j8⟩, j9⟩, j10⟩ := hJ'
  simp only [List.nodup_cons, List.mem_cons, List.not_mem_nil, or_false, not_or, List.nodup_nil, and_true] at j9
  obtain ⟨⟨n1, n2, n3⟩, ⟨n4, n5⟩, n6, _⟩ := j9
  simp only [acrF, Option.bind_eq_some_iff] at e
  obtain ⟨⟨φ1, o1⟩, h1, e⟩ := e
  induction o1 using Option.casesOn with
  | some _ => simp at e
  | none =>
  simp only [Option.bind_eq_some_iff] at e
  obtain ⟨dw, h2, e⟩ := e
  cases dw <;> try (simp only [reduceCtorEq] at e)
  rename_i w0
  split at e
  · rename_i hc
    simp only [Bool.and_eq_true, decide_eq_true_eq, List.all_eq_true, Bool.not_eq_true', beq_eq_false_iff_ne, ne_eq] at hc
    obtain ⟨⟨⟨hsw, hzw⟩, hsφ⟩, hnφ⟩ := hc
    simp only [Option.bind_eq_some_iff] at e
    obtain ⟨o0, h3, e⟩ := e
    split at e
    · rename_i hso
      simp only [Option.bind_eq_some_iff] at e
      obtain ⟨⟨w', o'⟩, h4, h5⟩ := e
      have hφ : ∀ p ∈ φ1, p.1 ≠ J.wx ∧ p.1 ≠ J.ox ∧ p.1 ≠ J.cx ∧ p.1 ≠ J.thx := fun p hp => by
        obtain ⟨⟨⟨a1, a2⟩, a3⟩, a4⟩ := hnφ p hp
        exact ⟨a1, a2, a3, a4⟩
      have nφ : ∀ {y d}, φ1.lookup y = some d → y ≠ J.wx ∧ y ≠ J.ox ∧ y ≠ J.cx ∧ y ≠ J.thx := fun {y d} q => hφ _ (mem_of_lookup q)
      refine enter_ok CO DA hsc K H x rv (hb vs s H rv.length) fun env s' hs kp fr F _ _ => ?_
      obtain ⟨hh, tk0, rfl⟩ := hs
      dsimp only at kp F
      have Kk : Aok k (A.deeper env) := K.deeper
      generalize hX : (fun b => X b ∨ b = env.locals ∨ ∃ y, env.cells.lookup y = some b) = X1 at F
      show wpAny _ _ (execs [J.s0, .Assign [.Name J.wx J.wxp] J.we J.wp, .Assign [.Name J.ox J.oxp] (.List [] J.olp) J.op, .For (.Name J.cx J.cxp) (.Name J.wx J.w2p) J.b1 [] J.f1p, .For (.Name J.cx J.cx2p) (.Name J.wx J.w3p) J.b2 [] J.f2p, .Return (some J.re) J.rp] env) _ _ _
      refine wpAny_execs_cons (exS_ok CO GO N N _ _ _ _ h1 _ X1 env { s with heap := hh, toks := tk0 } _ _ Kk F fun ha tka Fa ka => ?_)
      have e1 : exS G N 1 fd.scope.names φ1 (.Assign [.Name J.wx J.wxp] J.we J.wp) = some (setA J.wx (.lst w0) φ1, none) := exS_Assign j3 h2
      have Fa' : FrOk C (fun b => X1 b ∨ ∃ o, ha.get? b = some o ∧ o.cls = .type "list") fd.scope.names env φ1 ha := FrOk.nolist (s := { s with heap := ha, toks := tka }) Fa fun y d q => hsφ _ (mem_of_lookup q)
      generalize hX2 : (fun b => X1 b ∨ ∃ o, ha.get? b = some o ∧ o.cls = .type "list") = X2 at Fa'
      refine wpAny_execs_cons (exS_ok CO GO N 1 _ _ _ _ e1 _ X2 env { s with heap := ha, toks := tka } _ _ Kk Fa' fun hb' tkb Fb kb => ?_)
      refine wpAny_execs_cons (newList_ok (s := { s with heap := hb', toks := tkb }) Fb j4 fun Lo hc tkc frLo Mc kc => ?_)
      have Mc' : MFr C X2 fd.scope.names env ((J.ox, .adr Lo) :: (J.wx, .lst w0) :: φ1) [(J.ox, Lo, [])] hc := Mc.sub (fun y d q => by
        simp only [lk_cons] at q
        rw [lookup_setA, lookup_setA]
        by_cases a1 : y = J.ox
        · rw [if_pos a1] at q ⊢; exact q
        · rw [if_neg a1] at q ⊢
          by_cases a2 : y = J.wx
          · rw [if_pos a2] at q ⊢; exact q
          · rw [if_neg a2] at q ⊢; exact q) fun q hq => by rw [List.mem_singleton] at hq; subst hq; simp only [lk_cons, if_true]
      refine wpAny_execs_cons (acrFor1_ok (s := { s with heap := hc, toks := tkc }) CO GO hJ gv kpf hins Kk hφ hzw Mc' h3 fun hd tkd Md' kd => ?_)
      -- the other list is set apart
      have lw : ((J.ox, D.adr Lo) :: (J.wx, D.lst w0) :: φ1).lookup J.wx = some (.lst w0) := by simp only [lk_cons, if_neg n1, if_true]
      obtain ⟨_, _, v, rvw, wh⟩ := Md'.fr.st.e.ld J.wx _ lw
      obtain ⟨Lw, vsw, nw, rfl, nXw, gw, rw0⟩ := rvw.lst_inv
      have Me : MFr C X2 fd.scope.names env ((J.wx, .adr Lw) :: (J.ox, .adr Lo) :: φ1) (acrMs J Lw Lo w0 o0) hd := by
        refine Md'.more nXw gw rw0 hsw (fun q hq => by rw [List.mem_singleton] at hq; subst hq; exact hso) ⟨_, rfl, lw, wh⟩ (fun y d q => ?_) (by simp only [lk_cons, if_true]) fun q hq => by
          rw [List.mem_singleton] at hq; subst hq; simp only [lk_cons, if_neg (Ne.symm n1), if_true]
        simp only [lk_cons] at q ⊢
        by_cases a1 : y = J.wx
        · rw [if_pos a1] at q; cases q; exact .inr ⟨a1, rfl⟩
        · rw [if_neg a1] at q
          refine .inl ?_
          by_cases a2 : y = J.ox
          · rw [if_pos a2] at q ⊢; cases q; exact ⟨rfl, rfl⟩
          · rw [if_neg a2] at q ⊢
            rw [if_neg a1]
            exact ⟨q, hsφ _ (mem_of_lookup q)⟩
      refine wpAny_execs_cons (acrFor2_ok (s := { s with heap := hd, toks := tkd }) CO GO hJ gv kpf hins Kk hφ Me h4 fun hf tkf Mf kf => ?_)
      have Vf : FrOk C X2 fd.scope.names env ((J.wx, .lst w') :: (J.ox, .lst o') :: φ1) hf := Mf.seen.sub fun y d hy => by
        rw [view, List.map_cons, List.map_cons, List.map_nil, List.cons_append, List.cons_append, List.nil_append]
        simp only [lk_cons] at hy ⊢
        by_cases q1 : y = J.wx
        · rw [if_pos q1] at hy ⊢; exact hy
        · rw [if_neg q1] at hy ⊢
          by_cases q2 : y = J.ox
          · rw [if_pos q2] at hy ⊢; exact hy
          · rw [if_neg q2] at hy ⊢
            rw [if_neg q1, if_neg q2]; exact hy
      refine wpAny_execs_cons (wpAny_Return_some ((ev_ok CO GO N).1 X2 _ env _ J.re r h5 _ { s with heap := hf, toks := tkf } _ _ Kk Vf.st fun v hg tkg Hg kg rg => ?_))
      refine h v hg tkg Hg (fun b o nb eb => ?_) (rg.av fun b _ _ q => by rw [← hX2, ← hX]; exact .inl (.inl q))
      have e0 := kp b o eb
      have nY : ¬ Yf C fd.scope.names env b := by
        rintro (q | q | ⟨y, _, q⟩)
        · exact nb q
        · rw [fr b (.inl q)] at eb; cases eb
        · rw [fr b (.inr ⟨y, q⟩)] at eb; cases eb
      have ea := ka b o nY e0
      have eb' := kb b o nY ea
      have bo : b ≠ Lo := fun q => by rw [q, frLo] at eb'; cases eb'
      have nLw : ¬ X2 Lw := fun q => nXw (.inl q)
      have nYL : ¬ Yf C fd.scope.names env Lw := fun q => nLw (Yf_X Fa' _ q)
      have nLo : Lw ≠ Lo := fun q => nXw (.inr ⟨_, List.mem_singleton.mpr rfl, q.symm⟩)
      have frLw : ha.get? Lw = none := by
        cases q : ha.get? Lw with
        | none => rfl
        | some ow =>
          exfalso
          have q2 := kc _ _ nYL (kb _ _ nYL q)
          have q3 := kd _ _ (fun w => by
            rcases w with w | ⟨p, hp, w⟩
            · exact nYL w
            · rw [List.mem_singleton] at hp; subst hp; exact nLo w.symm) q2
          rw [gw] at q3
          cases q3
          exact nLw (by rw [← hX2]; exact .inr ⟨_, q, rfl⟩)
      have bw : b ≠ Lw := fun q => by rw [q, frLw] at ea; cases ea
      have ec := kc b o nY eb'
      have ed := kd b o (fun w => by
        rcases w with w | ⟨p, hp, w⟩
        · exact nY w
        · rw [List.mem_singleton] at hp; subst hp; exact bo w.symm) ec
      have ef := kf b o (fun w => by
        rcases w with w | ⟨p, hp, w⟩
        · exact nY w
        · simp only [acrMs, List.mem_cons, List.not_mem_nil, or_false] at hp
          rcases hp with rfl | rfl
          · exact bw w.symm
          · exact bo w.symm) ed
      exact kg b o nb ef
    · cases e
  · cases e
end
end Mine
namespace Mine
open PySem PySem.Spec PySem.Calls PyProof.Rows PySem.W
set_option linter.unusedVariables false
set_option maxRecDepth 100000

/-- a def of the text, by its name -/
noncomputable def fdef (x : Str) : List Stmt → Stmt
  | [] => .Return none default
  | .FunctionDef n a b d r t sc ts bn p :: rest => if n == x then .FunctionDef n a b d r t sc ts bn p else fdef x rest
  | _ :: rest => fdef x rest
noncomputable def sBody : Stmt → List Stmt
  | .FunctionDef _ _ b .. => b
  | _ => []
noncomputable def sNames : Stmt → Sc
  | .FunctionDef _ _ _ _ _ _ sc .. => sc.names
  | _ => []
noncomputable def mkIn1 : List Stmt → Option In1
  | [.If t [.Assign [.Subscript (.Name lx lxp) li sp] (.Name xx xp) ap, .Return none rp] [] ip, s1, s2, s3, s4, .Expr (.Call (.Name fx f1p) a1 [] c1p) e1p, .Expr (.Call (.Name _ f2p) a2 [] c2p) e2p] =>
    some { t, ip, lx, lxp, li, sp, xx, xp, ap, rp, pre := [s1, s2, s3, s4], fx, f1p, a1, c1p, e1p, f2p, a2, c2p, e2p }
  | _ => none
noncomputable def mkIn0 : List Stmt → Option In0
  | [.Assign [.Name dx dxp] e0 p0, .FunctionDef nm params b [] none [] scope none _ dp, .If t [.Expr (.Call (.Name _ fp) args [] cp) ep] [] ip, .Return (some (.Name _ rp1)) rp2] =>
    (mkIn1 b).map fun I => { dx, dxp, e0, p0, nm, params, I, scope, dp, t, fp, args, cp, ep, ip, rp1, rp2 }
  | _ => none
noncomputable def mkJn1 : List Stmt → Option Jn1
  | [.If t [.Return (some rt) rtp] [] ip, s1, s2, .Return (some (.BinOp (.BinOp (.Call (.Name fx f1p) a1 [] c1p) o1 sh b1p) o2 (.Call (.Name _ f2p) a2 [] c2p) b2p)) rp] =>
    some { t, ip, rt, rtp, pre := [s1, s2], fx, f1p, a1, c1p, o1, sh, b1p, o2, f2p, a2, c2p, b2p, rp }
  | _ => none
noncomputable def mkJn0 : List Stmt → Option Jn0
  | [.FunctionDef nm params b [] none [] scope none _ dp, .Return (some (.IfExp t (.Call (.Name _ fp) args [] cp) z xp)) rp] =>
    (mkJn1 b).map fun I => { nm, params, I, scope, dp, t, fp, args, cp, z, xp, rp }
  | _ => none
noncomputable def mkIns : List Stmt → Option Ins
  | [.If t [.Assign [.Name lx lxp] e ap] o ip, .Expr (.Call (.Attribute (.Name ax axp) _ atp) [.Name _ lxp2, .Name xx xxp] [] cp) ep] =>
    some { t, lx, lxp, e, ap, o, ip, ax, axp, atp, lxp2, xx, xxp, cp, ep }
  | _ => none

noncomputable def addG (x : Str) (g : List D → Option D) (G : Fn) : Fn := fun f ds => if f == x then g ds else G f ds

section
variable {C : Cfg} {k k' : Nat} {G : Fn}
theorem CallOk.mono {fv : Value} {ds : List D} {r : D} (x : CallOk C k fv ds r) (h : k ≤ k') : CallOk C k' fv ds r := fun A X vs s Q E K => x A X vs s Q E (K.mono h)
theorem ProcOk.mono {fv : Value} {ds l l' : List D} (x : ProcOk C k fv ds l l') (h : k ≤ k') : ProcOk C k' fv ds l l' := fun A X a vs s Q E K => x A X a vs s Q E (K.mono h)
theorem GOk.mono (x : GOk C k G) (h : k ≤ k') : GOk C k' G := fun f ds r e => let ⟨a, fv, b, c, d⟩ := x f ds r e; ⟨a, fv, b, c, d.mono h⟩
theorem GOk.add {x : Str} {g : List D → Option D} {fv : Value} (y : GOk C k G) (hx : (x == ("__debug__" : Str)) = false) (gv : Gval C x fv) (kp : Keepable C fv) (hg : ∀ ds r, g ds = some r → CallOk C k fv ds r) : GOk C k (addG x g G) := fun f ds r e => by
  unfold addG at e
  split at e
  · rename_i q
    rw [eq_of_beq q]
    exact ⟨hx, fv, gv, kp, hg ds r e⟩
  · exact y f ds r e
theorem GOk.none : GOk C k (fun _ _ => .none) := fun f ds r e => by cases e
end

noncomputable def gLen : List D → Option D
  | [.lst l] => if decide (l.length ≤ 1000) then some (.int l.length) else none
  | _ => none
noncomputable def gRange : List D → Option D
  | [.int n] => if small n then some (.rng 0 n.toNat) else none
  | [.int a, .int b] => if small b then some (.rng a (b - a).toNat) else none
  | _ => none
noncomputable def gSorted : List D → Option D
  | [.lst l] => (intsOf l).bind fun ns => if decide (ns.length < 64) then some (.lst ((sortZ ns).map .int)) else none
  | _ => none
noncomputable def Gb : Fn := addG "len" gLen (addG "range" gRange (addG "sorted" gSorted fun _ _ => none))

theorem gLen_ok {C : Cfg} {k : Nat} (ds : List D) (r : D) (e : gLen ds = some r) : CallOk C k (.builtin "len") ds r := by
  unfold gLen at e
  split at e
  · split at e
    · rename_i h; cases e; exact len_ok (by simpa using h)
    · cases e
  · cases e
theorem gRange_ok {C : Cfg} {k : Nat} (ds : List D) (r : D) (e : gRange ds = some r) : CallOk C k (.type "range") ds r := by
  unfold gRange at e
  split at e
  · split at e
    · rename_i h; cases e; exact range1_ok h
    · cases e
  · split at e
    · rename_i h; cases e; exact range2_ok h
    · cases e
  · cases e
theorem gSorted_ok {C : Cfg} {k : Nat} (ds : List D) (r : D) (e : gSorted ds = some r) : CallOk C k (.builtin "sorted") ds r := by
  unfold gSorted at e
  split at e
  · simp only [Option.bind_eq_some_iff] at e
    obtain ⟨ns, h1, h2⟩ := e
    split at h2
    · rename_i h; cases h2; rw [intsOf_eq h1]; exact sorted_ok (by simpa using h)
    · cases h2
  · cases e

noncomputable def runF (G : Fn) (sc : Sc) (body : List Stmt) (ps : List Str) (ds : List D) : Option D := (exB (exS G 30 30 sc) body (ps.zip ds)).bind (·.2)
theorem runF_ok {C : Cfg} {k : Nat} {G : Fn} {a : Addr} {fd : FuncData} {body : List Stmt} {ps : List Str} {ds ex : List D} {r : D} {exv : List Value} (CO : CfgOk C) (GO : GOk C k G) (DA : DefAt C a fd body)
    (hsc : defSc fd.scope.names ps = true) (hex : ∀ X h, RpL X h ex exv) (hb : ∀ (vs : List Value) (s : Shared), HOk C s.heap → vs.length = ds.length → BindsTo s fd ⟨vs, []⟩ (ps.zip (vs ++ exv)))
    (e : runF G fd.scope.names body ps (ds ++ ex) = some r) : CallOk C (k + 1) (.ref a) ds r := by
  simp only [runF, Option.bind_eq_some_iff] at e
  obtain ⟨⟨φ', o⟩, h1, h2⟩ := e
  dsimp only at h2
  subst h2
  exact fun_ok CO GO DA hsc hex hb h1


noncomputable def mkNea : List Stmt → Option Nea
  | .Assign [.Tuple [.Name x px, .Name y py] kt pt] (.Name z pz) pos :: rest => some { x, px, y, py, kt, pt, z, pz, pos, rest }
  | _ => none
noncomputable def mkAcr : List Stmt → Option Acr
  | [s0, .Assign [.Name wx wxp] we wp, .Assign [.Name ox oxp] (.List [] olp) op, .For (.Name cx cxp) (.Name _ w2p) [.Expr (.Call (.Name inm i1p) [.Name _ a1p, .Name _ a2p] [] c1p) e1p] [] f1p,
      .For (.Name _ cx2p) (.Name _ w3p) [.If t1 tb [] t1p, .For (.Name thx thxp) ne [.If t3 [.Expr (.Call (.Name _ i2p) [.Name _ a3p, .Name _ a4p] [] c2p) e2p, .Expr (.Call (.Attribute (.Name _ w4p) _ atp) [.Name _ th2p] [] c3p) e3p] [] t3p] [] f3p] [] f2p, .Return (some re) rp] =>
    some { s0, wx, wxp, we, wp, ox, oxp, olp, op, cx, cxp, w2p, inm, i1p, a1p, a2p, c1p, e1p, f1p, cx2p, w3p, t1, tb, t1p, thx, thxp, ne, t3, i2p, a3p, a4p, c2p, e2p, w4p, atp, th2p, c3p, e3p, t3p, f3p, f2p, re, rp }
  | _ => none
noncomputable def gList : List D → Option D
  | [.itm ks l] => if decide (ks.length ≤ 1000) then some (.lst (List.zipWith (fun k v => .tup [keyD k, v]) ks l)) else none
  | _ => none
noncomputable def gDict : List D → Option D
  | [.lst l] => if decide (l.length ≤ 1000) then (pairsOf l).map dmake else none
  | _ => none
theorem gList_ok {C : Cfg} {k : Nat} (ds : List D) (r : D) (e : gList ds = some r) : CallOk C k (.type "list") ds r := by
  unfold gList at e
  split at e
  · split at e
    · rename_i h; cases e; exact list_ok (by simpa using h)
    · cases e
  · cases e
theorem gDict_ok {C : Cfg} {k : Nat} (CO : CfgOk C) (ds : List D) (r : D) (e : gDict ds = some r) : CallOk C k (.type "dict") ds r := by
  unfold gDict at e
  split at e
  · split at e
    · rename_i h
      simp only [Option.map_eq_some_iff] at e
      obtain ⟨ql, h1, rfl⟩ := e
      exact dict_ok CO (by simpa using h) h1
    · cases e
  · cases e
noncomputable def Gx : Fn := addG "list" gList (addG "dict" gDict Gb)
end Mine
namespace Mine
open PySem PySem.Spec PySem.Calls PyProof.Rows PySem.W
set_option linter.unusedVariables false
set_option maxRecDepth 100000
noncomputable def P2 : List Stmt := PySem.Challenge.pw_gg0004_01.main.body
noncomputable def f21 : Stmt := fdef "_int2digits" P2
noncomputable def f28 : Stmt := fdef "_digits2int" P2
noncomputable def f37 : Stmt := fdef "insort_left" P2
noncomputable def f46 : Stmt := fdef "bisect_left" P2
noncomputable def f53 : Stmt := fdef "_law_has" P2
noncomputable def f58 : Stmt := fdef "_law_near" P2
noncomputable def f63 : Stmt := fdef "_law_across" P2
noncomputable def f68 : Stmt := fdef "_law_board" P2
noncomputable def f73 : Stmt := fdef "law" P2
noncomputable def J21 : In0 := (mkIn0 (sBody f21)).get rfl
noncomputable def J28 : Jn0 := (mkJn0 (sBody f28)).get rfl
noncomputable def J37 : Ins := (mkIns (sBody f37)).get rfl
noncomputable def J58 : Nea := (mkNea (sBody f58)).get rfl
noncomputable def J63 : Acr := (mkAcr (sBody f63)).get rfl
theorem J21_body : J21.body = sBody f21 := rfl
theorem J28_body : J28.body = sBody f28 := rfl
theorem J37_body : J37.body = sBody f37 := rfl
theorem J58_body : J58.body = sBody f58 := rfl
theorem J63_body : J63.body = sBody f63 := rfl
theorem J28_ok : J28.ok (sNames f28) ["digits", "n"] ["L", "R"] = true := by decide +kernel
theorem J37_ok : J37.ok (sNames f37) ["x", "lo", "hi", "key"] = true := by decide +kernel
theorem J21_ok : J21.ok (sNames f21) ["a", "n"] ["x", "L", "R"] = true := by decide +kernel
theorem J63_ok : J63.ok (sNames f63) = true := by decide +kernel
noncomputable def gI : List D → Option D
  | [.int a, .int n] => i2d Gb 30 (sNames f21) ["a", "n"] ["x", "L", "R"] J21 8 [.int a, .int n]
  | _ => none
noncomputable def gD : List D → Option D
  | [.lst l, .int n] => d2i Gb 30 (sNames f28) ["digits", "n"] ["L", "R"] J28 8 [.lst l, .int n]
  | _ => none
noncomputable def ps5 : List Str := ["a", "x", "lo", "hi", "key"]
noncomputable def gB : List D → Option D
  | [a, x] => runF Gb (sNames f46) (sBody f46) ps5 [a, x, .int 0, .none, .none]
  | [a, x, lo, hi] => runF Gb (sNames f46) (sBody f46) ps5 [a, x, lo, hi, .none]
  | _ => none
noncomputable def GB : Fn := addG "bisect_left" gB Gb
noncomputable def gIns (x : D) (l : List D) : Option (List D) := ins GB 30 (sNames f37) ["x", "lo", "hi", "key"] [x, .int 0, .none, .none] J37 l
noncomputable def gH : List D → Option D
  | [a, b] => runF GB (sNames f53) (sBody f53) ["order", "one"] [a, b]
  | _ => none
noncomputable def gN : List D → Option D
  | [a, b] => near Gb 30 (sNames f58) ["cell", "size"] [a, b] J58
  | _ => none
noncomputable def GA : Fn := addG "_law_has" gH (addG "_law_near" gN Gb)
noncomputable def gA : List D → Option D
  | [a, b, c] => acrF GA gIns 30 (sNames f63) J63 ["colours", "size", "colour"] 12 [a, b, c]
  | _ => none
noncomputable def gBo : List D → Option D
  | [a, b] => runF Gx (sNames f68) (sBody f68) ["figures", "size"] [a, b]
  | _ => none
noncomputable def G1 : Fn := addG "_law_across" gA (addG "_law_board" gBo (addG "_int2digits" gI (addG "_digits2int" gD Gx)))
end Mine
namespace Mine
open PySem PySem.Spec PySem.Calls PyProof.Rows PySem.W
set_option linter.unusedVariables false
set_option maxRecDepth 100000
set_option Elab.async false
open_top hd for PySem.Challenge.rw_gg0004_01

theorem lenS {n : Nat} {vs : List Value} (h : vs.length = n + 1) : ∃ a t, vs = a :: t ∧ t.length = n := by
  induction vs using List.casesOn with
  | nil => exact Nat.noConfusion h
  | cons a t => exact ⟨a, t, rfl, Nat.succ.inj h⟩
theorem len2 {vs : List Value} (h : vs.length = 2) : ∃ v0 v1, vs = [v0, v1] := by
  obtain ⟨a, t, rfl, h1⟩ := lenS h
  obtain ⟨b, u, rfl, h2⟩ := lenS h1
  obtain rfl := List.eq_nil_of_length_eq_zero h2
  exact ⟨a, b, rfl⟩
theorem len3 {vs : List Value} (h : vs.length = 3) : ∃ v0 v1 v2, vs = [v0, v1, v2] := by
  obtain ⟨a, t, rfl, h1⟩ := lenS h
  obtain ⟨b, c, rfl⟩ := len2 h1
  exact ⟨a, b, c, rfl⟩
theorem len4 {vs : List Value} (h : vs.length = 4) : ∃ v0 v1 v2 v3, vs = [v0, v1, v2, v3] := by
  obtain ⟨a, t, rfl, h1⟩ := lenS h
  obtain ⟨b, c, d, rfl⟩ := len3 h1
  exact ⟨a, b, c, d, rfl⟩
section
variable {w : World} {B : Heap} {mg mb : Str → Option Value} {loose : List Str} {mean : ExcName → Option Value}
noncomputable abbrev C1 (w : World) (B : Heap) (mg mb : Str → Option Value) : Cfg := ⟨PySem.Challenge.rw_gg0004_01.row.prog, w, B, mg, mb, [(20, 16, J21.dp, "_int2digits" ++ ".<locals>." ++ J21.nm), (27, 23, J28.dp, "_digits2int" ++ ".<locals>." ++ J28.nm)]⟩

structure Ctx1 (w : World) (B : Heap) (mg mb : Str → Option Value) (loose : List Str) (mean : ExcName → Option Value) : Prop where
  X : (hd.heap_39 w.params).In B
  T : Top topProg loose mean mg mb B
  c1 : CodeHd B 20 16
  c2 : CodeHd B 27 23
  n1 : B.get? 16 = none
  n2 : B.get? 23 = none

theorem Ctx1.cfg (c : Ctx1 w B mg mb loose mean) : CfgOk (C1 w B mg mb) := ⟨c.T.g, c.T.b, c.T.nolimit⟩
theorem Ctx1.tbs (c : Ctx1 w B mg mb loose mean) : TbsOk (C1 w B mg mb) where
  hd := fun q hq => by
    rcases List.mem_cons.mp hq with rfl | hq
    · exact c.c1
    · rw [List.mem_singleton] at hq; subst hq; exact c.c2
  no := fun q hq => by
    rcases List.mem_cons.mp hq with rfl | hq
    · exact c.n1
    · rw [List.mem_singleton] at hq; subst hq; exact c.n2
  one := fun q hq q' hq' e => by
    rcases List.mem_cons.mp hq with rfl | hq <;> rcases List.mem_cons.mp hq' with rfl | hq'
    · rfl
    · rw [List.mem_singleton] at hq'; subst hq'; cases e
    · rw [List.mem_singleton] at hq; subst hq; cases e
    · rw [List.mem_singleton] at hq hq'; subst hq; subst hq'; rfl
  bm := by
    obtain ⟨bm, ob, b1, b2, b3, b4, b5, b6⟩ := c.T.bmain
    have hbG : bm ≠ mainGlobals := fun q => by
      obtain ⟨o, es, ep, e, hdt, _⟩ := c.T.g
      rw [q, e] at b3; cases b3; rw [hdt] at b6; cases b6
    exact ⟨bm, ob, b1, b2, hbG, b3, b4, b5, b6⟩

theorem Ctx1.blt (c : Ctx1 w B mg mb loose mean) {x : Str} {v : Value} (e : nsIn (hd.heap_39 w.params) mainGlobals x = some none) (hv : bootBuiltins x = some v) (hn : x ≠ "__name__") : Gval (C1 w B mg mb) x v :=
  .inr ⟨mg_none_of c.X c.T.g e, (c.T.builtins x hn).trans hv⟩
theorem Ctx1.glb (c : Ctx1 w B mg mb loose mean) {x : Str} {v : Value} (e : nsIn (hd.heap_39 w.params) mainGlobals x = some (some v)) : Gval (C1 w B mg mb) x v :=
  .inl (mg_of c.X c.T.g e)

theorem Ctx1.Gb (c : Ctx1 w B mg mb loose mean) : GOk (C1 w B mg mb) 0 Gb := by
  refine ((GOk.none.add (by decide) (c.blt rfl rfl (by decide)) (keep_machine (by nofun)) gSorted_ok).add (by decide) (c.blt rfl rfl (by decide)) (keep_machine (by nofun)) gRange_ok).add (by decide) (c.blt rfl rfl (by decide)) (keep_machine (by nofun)) gLen_ok
theorem Ctx1.d21 (c : Ctx1 w B mg mb loose mean) : ∃ fd, DefAt (C1 w B mg mb) 21 fd (sBody f21) ∧ fd.scope.names = sNames f21 ∧ fd.qualname = "_int2digits" ∧ fd.code = .ref 20 ∧
    ∀ (vs : List Value) (s : Shared), HOk (C1 w B mg mb) s.heap → vs.length = 2 → BindsTo s fd ⟨vs, []⟩ ((["a", "n"] : List Str).zip vs) :=
  ⟨_, ⟨⟨_, c.X 21 _ rfl, rfl⟩, rfl, rfl, rfl, rfl, rfl, rfl, rfl, ⟨20, _, _, _, rfl, c.X 20 _ rfl, rfl, rfl⟩⟩, rfl, rfl, rfl, fun vs s H e => by
    obtain ⟨v0, v1, rfl⟩ := len2 e
    exact kp_binds (K := hd.heap_39 w.params) (fun b o q => H.base _ _ (c.X b o q)) fun _ => rfl⟩
theorem Ctx1.d28 (c : Ctx1 w B mg mb loose mean) : ∃ fd, DefAt (C1 w B mg mb) 28 fd (sBody f28) ∧ fd.scope.names = sNames f28 ∧ fd.qualname = "_digits2int" ∧ fd.code = .ref 27 ∧
    ∀ (vs : List Value) (s : Shared), HOk (C1 w B mg mb) s.heap → vs.length = 2 → BindsTo s fd ⟨vs, []⟩ ((["digits", "n"] : List Str).zip vs) :=
  ⟨_, ⟨⟨_, c.X 28 _ rfl, rfl⟩, rfl, rfl, rfl, rfl, rfl, rfl, rfl, ⟨27, _, _, _, rfl, c.X 27 _ rfl, rfl, rfl⟩⟩, rfl, rfl, rfl, fun vs s H e => by
    obtain ⟨v0, v1, rfl⟩ := len2 e
    exact kp_binds (K := hd.heap_39 w.params) (fun b o q => H.base _ _ (c.X b o q)) fun _ => rfl⟩
theorem Ctx1.d53 (c : Ctx1 w B mg mb loose mean) : ∃ fd, DefAt (C1 w B mg mb) 53 fd (sBody f53) ∧ fd.scope.names = sNames f53 ∧ fd.qualname = "_law_has" ∧ fd.code = .ref 52 ∧
    ∀ (vs : List Value) (s : Shared), HOk (C1 w B mg mb) s.heap → vs.length = 2 → BindsTo s fd ⟨vs, []⟩ ((["order", "one"] : List Str).zip vs) :=
  ⟨_, ⟨⟨_, c.X 53 _ rfl, rfl⟩, rfl, rfl, rfl, rfl, rfl, rfl, rfl, ⟨52, _, _, _, rfl, c.X 52 _ rfl, rfl, rfl⟩⟩, rfl, rfl, rfl, fun vs s H e => by
    obtain ⟨v0, v1, rfl⟩ := len2 e
    exact kp_binds (K := hd.heap_39 w.params) (fun b o q => H.base _ _ (c.X b o q)) fun _ => rfl⟩
theorem Ctx1.d58 (c : Ctx1 w B mg mb loose mean) : ∃ fd, DefAt (C1 w B mg mb) 58 fd (sBody f58) ∧ fd.scope.names = sNames f58 ∧ fd.qualname = "_law_near" ∧ fd.code = .ref 57 ∧
    ∀ (vs : List Value) (s : Shared), HOk (C1 w B mg mb) s.heap → vs.length = 2 → BindsTo s fd ⟨vs, []⟩ ((["cell", "size"] : List Str).zip vs) :=
  ⟨_, ⟨⟨_, c.X 58 _ rfl, rfl⟩, rfl, rfl, rfl, rfl, rfl, rfl, rfl, ⟨57, _, _, _, rfl, c.X 57 _ rfl, rfl, rfl⟩⟩, rfl, rfl, rfl, fun vs s H e => by
    obtain ⟨v0, v1, rfl⟩ := len2 e
    exact kp_binds (K := hd.heap_39 w.params) (fun b o q => H.base _ _ (c.X b o q)) fun _ => rfl⟩
theorem Ctx1.d63 (c : Ctx1 w B mg mb loose mean) : ∃ fd, DefAt (C1 w B mg mb) 63 fd (sBody f63) ∧ fd.scope.names = sNames f63 ∧ fd.qualname = "_law_across" ∧ fd.code = .ref 62 ∧
    ∀ (vs : List Value) (s : Shared), HOk (C1 w B mg mb) s.heap → vs.length = 3 → BindsTo s fd ⟨vs, []⟩ ((["colours", "size", "colour"] : List Str).zip vs) :=
  ⟨_, ⟨⟨_, c.X 63 _ rfl, rfl⟩, rfl, rfl, rfl, rfl, rfl, rfl, rfl, ⟨62, _, _, _, rfl, c.X 62 _ rfl, rfl, rfl⟩⟩, rfl, rfl, rfl, fun vs s H e => by
    obtain ⟨v0, v1, v2, rfl⟩ := len3 e
    exact kp_binds (K := hd.heap_39 w.params) (fun b o q => H.base _ _ (c.X b o q)) fun _ => rfl⟩
theorem Ctx1.d68 (c : Ctx1 w B mg mb loose mean) : ∃ fd, DefAt (C1 w B mg mb) 68 fd (sBody f68) ∧ fd.scope.names = sNames f68 ∧ fd.qualname = "_law_board" ∧ fd.code = .ref 67 ∧
    ∀ (vs : List Value) (s : Shared), HOk (C1 w B mg mb) s.heap → vs.length = 2 → BindsTo s fd ⟨vs, []⟩ ((["figures", "size"] : List Str).zip vs) :=
  ⟨_, ⟨⟨_, c.X 68 _ rfl, rfl⟩, rfl, rfl, rfl, rfl, rfl, rfl, rfl, ⟨67, _, _, _, rfl, c.X 67 _ rfl, rfl, rfl⟩⟩, rfl, rfl, rfl, fun vs s H e => by
    obtain ⟨v0, v1, rfl⟩ := len2 e
    exact kp_binds (K := hd.heap_39 w.params) (fun b o q => H.base _ _ (c.X b o q)) fun _ => rfl⟩
end
end Mine
namespace Mine
open PySem PySem.Spec PySem.Calls PyProof.Rows PySem.W
set_option linter.unusedVariables false
set_option maxRecDepth 100000

noncomputable def isLC : Expr → Bool
  | .ListComp .. => true
  | _ => false
theorem notLC {e : Expr} (h : isLC e = false) : ∀ a b c d, e ≠ .ListComp a b c d := fun a b c d q => Bool.noConfusion (show true = false from (congrArg isLC q).symm.trans h)
theorem on2_inv {F : D → D → Option D} {ds : List D} {r : D} (e : (match ds with | [a, b] => F a b | _ => none) = some r) : ∃ a b, ds = [a, b] ∧ F a b = some r := by
  induction ds using List.casesOn with
  | nil => exact no' e
  | cons a ds => induction ds using List.casesOn with
    | nil => exact no' e
    | cons b ds => induction ds using List.casesOn with
      | nil => exact ⟨a, b, rfl, e⟩
      | cons => exact no' e
theorem on3_inv {F : D → D → D → Option D} {ds : List D} {r : D} (e : (match ds with | [a, b, c] => F a b c | _ => none) = some r) : ∃ a b c, ds = [a, b, c] ∧ F a b c = some r := by
  induction ds using List.casesOn with
  | nil => exact no' e
  | cons a ds => induction ds using List.casesOn with
    | nil => exact no' e
    | cons b ds => induction ds using List.casesOn with
      | nil => exact no' e
      | cons c ds => induction ds using List.casesOn with
        | nil => exact ⟨a, b, c, rfl, e⟩
        | cons => exact no' e
theorem gB_inv {ds : List D} {r : D} (e : gB ds = some r) : (∃ a x, ds = [a, x] ∧ runF Gb (sNames f46) (sBody f46) ps5 [a, x, .int 0, .none, .none] = some r) ∨ ∃ a x lo hi, ds = [a, x, lo, hi] ∧ runF Gb (sNames f46) (sBody f46) ps5 [a, x, lo, hi, .none] = some r := by
  induction ds using List.casesOn with
  | nil => exact no' e
  | cons a ds => induction ds using List.casesOn with
    | nil => exact no' e
    | cons b ds => induction ds using List.casesOn with
      | nil => exact .inl ⟨a, b, rfl, e⟩
      | cons c ds => induction ds using List.casesOn with
        | nil => exact no' e
        | cons d ds => induction ds using List.casesOn with
          | nil => exact .inr ⟨a, b, c, d, rfl, e⟩
          | cons => exact no' e
theorem gI_inv {ds : List D} {r : D} (e : gI ds = some r) : ∃ a n, ds = [.int a, .int n] ∧ i2d Gb 30 (sNames f21) ["a", "n"] ["x", "L", "R"] J21 8 [.int a, .int n] = some r := by
  induction ds using List.casesOn with
  | nil => exact no' e
  | cons a ds => induction a using D.casesOn with
    | int a => induction ds using List.casesOn with
      | nil => exact no' e
      | cons b ds => induction b using D.casesOn with
        | int n => induction ds using List.casesOn with
          | nil => exact ⟨a, n, rfl, e⟩
          | cons => exact no' e
        | _ => exact no' e
    | _ => exact no' e
theorem gD_inv {ds : List D} {r : D} (e : gD ds = some r) : ∃ l n, ds = [.lst l, .int n] ∧ d2i Gb 30 (sNames f28) ["digits", "n"] ["L", "R"] J28 8 [.lst l, .int n] = some r := by
  induction ds using List.casesOn with
  | nil => exact no' e
  | cons a ds => induction a using D.casesOn with
    | lst l => induction ds using List.casesOn with
      | nil => exact no' e
      | cons b ds => induction b using D.casesOn with
        | int n => induction ds using List.casesOn with
          | nil => exact ⟨l, n, rfl, e⟩
          | cons => exact no' e
        | _ => exact no' e
    | _ => exact no' e

section
variable {w : World} {B : Heap} {mg mb : Str → Option Value} {loose : List Str} {mean : ExcName → Option Value}
theorem Ctx1.d46 (c : Ctx1 w B mg mb loose mean) : ∃ fd, DefAt (C1 w B mg mb) 46 fd (sBody f46) ∧ fd.scope.names = sNames f46 ∧
    (∃ t, ∀ (vs : List Value) (s : Shared), HOk (C1 w B mg mb) s.heap → vs.length = 2 → BindsTo s fd ⟨vs, []⟩ (ps5.zip (vs ++ [.int 0 t, .none, .none]))) ∧
    ∀ (vs : List Value) (s : Shared), HOk (C1 w B mg mb) s.heap → vs.length = 4 → BindsTo s fd ⟨vs, []⟩ (ps5.zip (vs ++ [.none])) :=
  ⟨_, ⟨⟨_, c.X 46 _ rfl, rfl⟩, rfl, rfl, rfl, rfl, rfl, rfl, rfl, ⟨45, _, _, _, rfl, c.X 45 _ rfl, rfl, rfl⟩⟩, rfl, ⟨_, fun vs s H e => by
    obtain ⟨v0, v1, rfl⟩ := len2 e
    exact kp_binds (K := hd.heap_39 w.params) (fun b o q => H.base _ _ (c.X b o q)) fun _ => rfl⟩, fun vs s H e => by
    obtain ⟨v0, v1, v2, v3, rfl⟩ := len4 e
    exact kp_binds (K := hd.heap_39 w.params) (fun b o q => H.base _ _ (c.X b o q)) fun _ => rfl⟩
theorem Ctx1.d37 (c : Ctx1 w B mg mb loose mean) : ∃ fd, DefAt (C1 w B mg mb) 37 fd (sBody f37) ∧ fd.scope.names = sNames f37 ∧
    ∃ t, ∀ (vs : List Value) (s : Shared), HOk (C1 w B mg mb) s.heap → vs.length = 2 → BindsTo s fd ⟨vs, []⟩ ((("a" : Str) :: ["x", "lo", "hi", "key"]).zip (vs ++ [.int 0 t, .none, .none])) :=
  ⟨_, ⟨⟨_, c.X 37 _ rfl, rfl⟩, rfl, rfl, rfl, rfl, rfl, rfl, rfl, ⟨36, _, _, _, rfl, c.X 36 _ rfl, rfl, rfl⟩⟩, rfl, ⟨_, fun vs s H e => by
    obtain ⟨v0, v1, rfl⟩ := len2 e
    exact kp_binds (K := hd.heap_39 w.params) (fun b o q => H.base _ _ (c.X b o q)) fun _ => rfl⟩⟩

theorem gI_ok (c : Ctx1 w B mg mb loose mean) (ds : List D) (r : D) (e : gI ds = some r) : CallOk (C1 w B mg mb) 9 (.ref 21) ds r := by
  obtain ⟨a, n, rfl, e2⟩ := gI_inv e
  · obtain ⟨fd, DA, hn, hq, hc, hb⟩ := c.d21
    rw [← hn] at e2
    refine i2d_ok (k := 0) (m := 8) (J := J21) (ips := ["x", "L", "R"]) c.cfg c.tbs c.Gb (J21_body ▸ DA) (hn ▸ by decide +kernel) (hn ▸ J21_ok) rfl rfl hb (by rw [hq]; exact List.mem_cons_self) hc rfl rfl (fun env => rfl) (fun cl doc pm cdv ctv vs hl => ?_) (notLC (by decide +kernel)) e2
    obtain ⟨v0, v1, v2, rfl⟩ := len3 hl
    rfl
theorem gD_ok (c : Ctx1 w B mg mb loose mean) (ds : List D) (r : D) (e : gD ds = some r) : CallOk (C1 w B mg mb) 9 (.ref 28) ds r := by
  obtain ⟨a, n, rfl, e2⟩ := gD_inv e
  · obtain ⟨fd, DA, hn, hq, hc, hb⟩ := c.d28
    rw [← hn] at e2
    refine d2i_ok (k := 0) (m := 8) (J := J28) (ips := ["L", "R"]) c.cfg c.tbs c.Gb (J28_body ▸ DA) (hn ▸ by decide +kernel) (hn ▸ J28_ok) rfl hb (by rw [hq]; exact List.mem_cons_of_mem _ List.mem_cons_self) hc rfl rfl (fun env => rfl) (fun cl doc pm cdv ctv vs hl => ?_) e2
    obtain ⟨v0, v1, rfl⟩ := len2 hl
    rfl
theorem Ctx1.keep21 (c : Ctx1 w B mg mb loose mean) : Keepable (C1 w B mg mb) (.ref 21) := let ⟨_, d, _⟩ := c.d21; keep_def d
theorem Ctx1.keep28 (c : Ctx1 w B mg mb loose mean) : Keepable (C1 w B mg mb) (.ref 28) := let ⟨_, d, _⟩ := c.d28; keep_def d
theorem exv3 {t : Tok} (X : Addr → Prop) (h : Heap) : RpL X h [.int 0, .none, .none] [.int 0 t, .none, .none] := by
  simp only [RpL, Rp]; exact ⟨_, _, rfl, ⟨t, rfl⟩, _, _, rfl, rfl, _, _, rfl, rfl, rfl⟩
theorem exv1 (X : Addr → Prop) (h : Heap) : RpL X h [.none] [.none] := by
  simp only [RpL, Rp]; exact ⟨_, _, rfl, rfl, rfl⟩
theorem gB_ok (c : Ctx1 w B mg mb loose mean) (ds : List D) (r : D) (e : gB ds = some r) : CallOk (C1 w B mg mb) 1 (.ref 46) ds r := by
  obtain ⟨fd, DA, hn, ⟨t, hb2⟩, hb4⟩ := c.d46
  rcases gB_inv e with ⟨a, x, rfl, e2⟩ | ⟨a, x, lo, hi, rfl, e2⟩ <;> rw [← hn] at e2
  · exact runF_ok (ds := [a, x]) (ex := [.int 0, .none, .none]) c.cfg c.Gb DA (hn ▸ by decide +kernel) exv3 hb2 e2
  · exact runF_ok (ds := [a, x, lo, hi]) (ex := [.none]) c.cfg c.Gb DA (hn ▸ by decide +kernel) exv1 hb4 e2
theorem Ctx1.keep46 (c : Ctx1 w B mg mb loose mean) : Keepable (C1 w B mg mb) (.ref 46) := let ⟨_, d, _⟩ := c.d46; keep_def d
theorem Ctx1.GB (c : Ctx1 w B mg mb loose mean) : GOk (C1 w B mg mb) 1 GB :=
  (c.Gb.mono (by decide)).add (by decide) (c.glb rfl) c.keep46 (gB_ok c)
theorem gIns_ok (c : Ctx1 w B mg mb loose mean) (x : D) (l l' : List D) (e : gIns x l = some l') : ProcOk (C1 w B mg mb) 2 (.ref 37) [x] l l' := by
  obtain ⟨fd, DA, hn, t, hb⟩ := c.d37
  unfold gIns at e
  rw [← hn] at e
  exact insort_ok (J := J37) (pt := ["x", "lo", "hi", "key"]) (ds := [x]) (ex := [.int 0, .none, .none]) c.cfg c.GB (J37_body ▸ DA) (hn ▸ by decide +kernel) (hn ▸ J37_ok) exv3 hb (notLC (by decide +kernel)) e
theorem gH_ok (c : Ctx1 w B mg mb loose mean) (ds : List D) (r : D) (e : gH ds = some r) : CallOk (C1 w B mg mb) 2 (.ref 53) ds r := by
  obtain ⟨a, b, rfl, e2⟩ := on2_inv (F := fun a b => runF GB (sNames f53) (sBody f53) ["order", "one"] [a, b]) e
  · obtain ⟨fd, DA, hn, hq, hc, hb⟩ := c.d53
    rw [← hn] at e2
    exact runF_ok (ex := []) (exv := []) c.cfg c.GB DA (hn ▸ by decide +kernel) (fun X h => by simp only [RpL]) (fun vs s H q => by rw [List.append_nil]; exact hb vs s H q) e2
theorem gN_ok (c : Ctx1 w B mg mb loose mean) (ds : List D) (r : D) (e : gN ds = some r) : CallOk (C1 w B mg mb) 1 (.ref 58) ds r := by
  obtain ⟨a, b, rfl, e2⟩ := on2_inv (F := fun a b => near Gb 30 (sNames f58) ["cell", "size"] [a, b] J58) e
  · obtain ⟨fd, DA, hn, hq, hc, hb⟩ := c.d58
    rw [← hn] at e2
    exact near_ok (J := J58) c.cfg c.Gb (J58_body ▸ DA) (hn ▸ by decide +kernel) (hn ▸ rfl) (hn ▸ rfl) hb e2
theorem Ctx1.keep (c : Ctx1 w B mg mb loose mean) : Keepable (C1 w B mg mb) (.ref 53) ∧ Keepable (C1 w B mg mb) (.ref 58) ∧ Keepable (C1 w B mg mb) (.ref 63) ∧ Keepable (C1 w B mg mb) (.ref 68) ∧ Keepable (C1 w B mg mb) (.ref 37) :=
  ⟨let ⟨_, d, _⟩ := c.d53; keep_def d, let ⟨_, d, _⟩ := c.d58; keep_def d, let ⟨_, d, _⟩ := c.d63; keep_def d, let ⟨_, d, _⟩ := c.d68; keep_def d, let ⟨_, d, _⟩ := c.d37; keep_def d⟩
theorem Ctx1.GA (c : Ctx1 w B mg mb loose mean) : GOk (C1 w B mg mb) 2 GA :=
  ((c.Gb.mono (by decide)).add (by decide) (c.glb rfl) c.keep.2.1 fun ds r e => (gN_ok c ds r e).mono (by decide)).add (by decide) (c.glb rfl) c.keep.1 (gH_ok c)
theorem gA_ok (c : Ctx1 w B mg mb loose mean) (ds : List D) (r : D) (e : gA ds = some r) : CallOk (C1 w B mg mb) 3 (.ref 63) ds r := by
  obtain ⟨a, b, d, rfl, e2⟩ := on3_inv (F := fun a b c => acrF GA gIns 30 (sNames f63) J63 ["colours", "size", "colour"] 12 [a, b, c]) e
  · obtain ⟨fd, DA, hn, hq, hc, hb⟩ := c.d63
    rw [← hn] at e2
    exact acr_ok (J := J63) (fv := .ref 37) c.cfg c.GA (J63_body ▸ DA) (hn ▸ by decide +kernel) (hn ▸ J63_ok) hb (c.glb rfl) c.keep.2.2.2.2 (gIns_ok c) e2
theorem Ctx1.Gx (c : Ctx1 w B mg mb loose mean) : GOk (C1 w B mg mb) 0 Gx :=
  (c.Gb.add (by decide) (c.blt rfl rfl (by decide)) (keep_machine (by nofun)) (gDict_ok c.cfg)).add (by decide) (c.blt rfl rfl (by decide)) (keep_machine (by nofun)) gList_ok
theorem gBo_ok (c : Ctx1 w B mg mb loose mean) (ds : List D) (r : D) (e : gBo ds = some r) : CallOk (C1 w B mg mb) 1 (.ref 68) ds r := by
  obtain ⟨a, b, rfl, e2⟩ := on2_inv (F := fun a b => runF Gx (sNames f68) (sBody f68) ["figures", "size"] [a, b]) e
  · obtain ⟨fd, DA, hn, hq, hc, hb⟩ := c.d68
    rw [← hn] at e2
    exact runF_ok (ex := []) (exv := []) c.cfg c.Gx DA (hn ▸ by decide +kernel) (fun X h => by simp only [RpL]) (fun vs s H q => by rw [List.append_nil]; exact hb vs s H q) e2
theorem Ctx1.G1 (c : Ctx1 w B mg mb loose mean) : GOk (C1 w B mg mb) 10 G1 := by
  obtain ⟨k1, k2, k3, k4, _⟩ := c.keep
  exact ((((c.Gx.mono (by decide)).add (by decide) (c.glb rfl) c.keep28 fun ds r e => (gD_ok c ds r e).mono (by decide)).add (by decide) (c.glb rfl) c.keep21 fun ds r e => (gI_ok c ds r e).mono (by decide)).add
    (by decide) (c.glb rfl) k4 fun ds r e => (gBo_ok c ds r e).mono (by decide)).add (by decide) (c.glb rfl) k3 fun ds r e => (gA_ok c ds r e).mono (by decide)
end
end Mine
namespace Mine
open PySem PySem.Spec PySem.Calls PyProof.Rows PySem.W
set_option linter.unusedVariables false
set_option maxRecDepth 100000

noncomputable def sScope : Stmt → Option Scope
  | .FunctionDef _ _ _ _ _ _ sc .. => some sc
  | _ => none
noncomputable def sc73 : Scope := (sScope f73).get rfl
noncomputable def n73 : Sc := sNames f73
noncomputable def b73 : List Stmt := sBody f73
noncomputable def st0 : Stmt := (b73[0]?).get rfl
noncomputable def st1 : Stmt := (b73[1]?).get rfl
noncomputable def qA : List Stmt := (b73.drop 2).take 3
noncomputable def st5 : Stmt := (b73[5]?).get rfl
noncomputable def qB : List Stmt := b73.drop 6
theorem b73_eq : b73 = st0 :: st1 :: (qA ++ (st5 :: qB)) := rfl

section
variable {w : World} {B : Heap} {mg mb : Str → Option Value} {loose : List Str} {mean : ExcName → Option Value} {L a : Addr} {cd : Value} {m : Str → Option Value} {h : Heap}

noncomputable abbrev env1 (L a : Addr) (cd : Value) : Env := envOf "law" sc73 L a cd
noncomputable abbrev X1 (w : World) (B : Heap) (mg mb : Str → Option Value) (L : Addr) : Addr → Prop := fun b => (C1 w B mg mb).Tb b ∨ b = L ∨ ∃ o, B.get? b = some o

theorem fr1 (c : Ctx1 w B mg mb loose mean) (F : Fr B L h m) (N : News B L h [(16, tabObj #[]), (23, tabObj #[])]) {φ : Ph} (hp : ∀ x d, φ.lookup x = some d → x = "size" ∧ ∃ z t, d = .int z ∧ m "size" = some (.int z t)) : FrOk (C1 w B mg mb) (X1 w B mg mb L) n73 (env1 L a cd) φ h := by
  have t16 := N _ List.mem_cons_self
  have t23 := N _ (List.mem_cons_of_mem _ List.mem_cons_self)
  have H : HOk (C1 w B mg mb) h := ⟨F.keep, fun q hq => by
    rcases List.mem_cons.mp hq with rfl | hq
    · exact ⟨#[], t16.1, trivial, .inl rfl⟩
    · rw [List.mem_singleton] at hq; subst hq
      exact ⟨#[], t23.1, trivial, .inl rfl⟩⟩
  have nT : ¬ (C1 w B mg mb).Tb L := fun ⟨q, hq, e⟩ => by
    rcases List.mem_cons.mp hq with rfl | hq
    · exact t16.2.1 e
    · rw [List.mem_singleton] at hq; subst hq; exact t23.2.1 e
  have ec : ∀ x c, (env1 L a cd).cells.lookup x = some c → False := fun x c e => by cases (show (none : Option Addr) = some c from e)
  refine ⟨⟨H, ⟨fun b q => .inl q, fun b q => ?_, fun b o q => .inr (.inr ⟨o, q⟩)⟩, ⟨rfl, rfl, rfl, nT, .inr (.inl rfl), fun x c e => (ec x c e).elim, fun x c e => (ec x c e).elim, fun x => .inl rfl, fun x hx => ?_, fun x d e => ?_⟩⟩, ⟨m, F.ns⟩, Heap.get?_none_of_le F.above, fun x hx => ?_, fun x y c e => (ec _ _ e).elim⟩
  · rcases q with q | q | ⟨o, q⟩
    · exact H.tbEx q
    · exact q ▸ Ns_ex F.ns
    · exact ⟨o, F.keep _ _ q⟩
  · have : ∀ p ∈ n73, p.2 ≠ .cell ∧ p.2 ≠ .free := by decide +kernel
    rcases hx with hx | hx
    · exact ((this _ (mem_lookup hx)).1 rfl).elim
    · exact ((this _ (mem_lookup hx)).2 rfl).elim
  · obtain ⟨rfl, z, t, rfl, hm⟩ := hp x d e
    exact ⟨rfl, rfl, .int z t, by simp only [Rp]; exact ⟨_, rfl⟩, .inl ⟨rfl, m, F.ns, hm⟩⟩
  · have : ∀ p ∈ n73, p.2 ≠ .cell := by decide +kernel
    exact (this _ (mem_lookup hx) rfl).elim

noncomputable abbrev newsB : List (Addr × Obj) := [(16, tabObj #[]), (23, tabObj #[])]
theorem noP {φ : Ph} (e : φ = []) : ∀ x d, φ.lookup x = some d → x = ("size" : Str) ∧ ∃ z t, d = .int z ∧ m "size" = some (.int z t) := fun x d q => by subst e; cases (show (none : Option D) = some d from q)

/-- size: one, two or three -/
theorem head1 (c : Ctx1 w B mg mb loose mean) {A : Around} {s : Shared} {l : Addr} {vs : List Value} {ns : List Int} {Q : Flow → Shared → Prop} {E : Value → Shared → Prop} (hA : A.handled = none) (F : Fr B L s.heap m) (hm : m "script" = some (.ref l)) (N : News B L s.heap [(16, tabObj #[]), (23, tabObj #[])])
    (hl : B.IsList l vs.toArray) (hI : IntsAre vs ns)
    (h : ∀ (z : Int) t h' tk m', 1 ≤ z → z ≤ 3 → Fr B L h' m' → m' "size" = some (.int z t) → m' "script" = some (.ref l) → News B L h' [(16, tabObj #[]), (23, tabObj #[])] → Q .next { s with heap := h', toks := tk }) :
    wpAny (model (C1 w B mg mb).prog (C1 w B mg mb).w) A (exec st0 (env1 L a cd)) Q E s := by
  have hl' : s.heap.IsList l vs.toArray := let ⟨o, e, r⟩ := hl; ⟨o, F.keep _ _ e, r⟩
  refine wpAny_Assign_Name (wpAny_BinOp (wpAny_Constant_int (wpAny_BinOp ?_))) rfl
  refine callB1_ok c.cfg (fr1 (a := a) (cd := cd) c { F with } N (noP rfl)).st rfl rfl (c.blt rfl rfl (by decide)) rfl ?_
  refine wpAny_Name (wpAny_loadName_local rfl rfl F.ns hm ?_) rfl
  refine LSm.sum_ints { F with } N hA hl' hI fun h1 tk1 t1 F1 N1 => ?_
  refine wpAny_Constant_int (mod_int (by decide) (add_int ?_))
  have z0 : 0 ≤ ns.sum.fmod 3 := Int.fmod_nonneg_of_pos _ (by decide)
  have z1 : ns.sum.fmod 3 < 3 := Int.fmod_lt_of_pos _ (by decide)
  refine wpAny_storeName_local rfl F1.ns (fun h2 hn hs => ?_) rfl
  refine h _ _ h2 _ _ (by omega) (by omega) (F1.set hn hs) (if_pos rfl) ((if_neg (by decide)).trans hm) fun p hp => ?_
  obtain ⟨a1, a2, a3⟩ := N1 p hp
  exact ⟨(hs.2 _ a2).trans a1, a2, a3⟩

/-- number: under two by the size's square -/
theorem head2 (c : Ctx1 w B mg mb loose mean) {A : Around} {s : Shared} {l : Addr} {vs : List Value} {ns : List Int} {z : Int} {tz : Tok} {Q : Flow → Shared → Prop} {E : Value → Shared → Prop} (hA : A.handled = none) (F : Fr B L s.heap m) (hm : m "script" = some (.ref l)) (hz : m "size" = some (.int z tz)) (z0 : 1 ≤ z) (z1 : z ≤ 3)
    (N : News B L s.heap [(16, tabObj #[]), (23, tabObj #[])])
    (hl : B.IsList l vs.toArray) (hI : IntsAre vs ns) (hlen : vs.length ≤ 1000)
    (h : ∀ (x : Int) h' tk, 0 ≤ x → x < 2 ^ (z * z).toNat → FrOk (C1 w B mg mb) (X1 w B mg mb L) n73 (env1 L a cd) (setA "number" (.int x) [("size", .int z)]) h' → Q .next { s with heap := h', toks := tk }) :
    wpAny (model (C1 w B mg mb).prog (C1 w B mg mb).w) A (exec st1 (env1 L a cd)) Q E s := by
  have hl' : s.heap.IsList l vs.toArray := let ⟨o, e, r⟩ := hl; ⟨o, F.keep _ _ e, r⟩
  refine wpAny_Assign_Name (wpAny_BinOp ?_) rfl
  refine callB1_ok c.cfg (fr1 (a := a) (cd := cd) c F N (noP rfl)).st rfl rfl (c.blt rfl rfl (by decide)) rfl ?_
  refine Subscript_ (wpAny_BinOp (wpAny_Name (wpAny_loadName_local rfl rfl F.ns hm ?_) rfl))
  refine List_ (spliced_more (wpAny_Constant_int (spliced_none (wpAny_newObj_type ?_ (by show _ ≤ sizeLine; rw [sizeLine_eq]; simp)))) rfl)
  have F1 := F.push (lstO #[Value.int 0 s.toks] 0)
  have N1 := News.push F N (lstO #[Value.int 0 s.toks] 0)
  refine add_lists (vs := vs) (ws := [Value.int 0 s.toks]) F1 N1 (hl := let ⟨o, e, r⟩ := hl; ⟨o, F1.keep _ _ e, r⟩) (hb := ⟨_, (N1 _ List.mem_cons_self).1, rfl, 0, rfl⟩) (fun h2 F2 N2 => ?_) (by rw [sizeLine_eq]; simp; omega)
  have hI2 : ∃ x t, (vs ++ [Value.int 0 s.toks])[0]? = some (.int x t) := by
    cases hI with
    | nil => exact ⟨_, _, rfl⟩
    | cons n t r => exact ⟨_, _, rfl⟩
  obtain ⟨x, t, ex⟩ := hI2
  have hL2 : h2.IsList _ (vs ++ [Value.int 0 s.toks]).toArray := ⟨_, (N2 _ List.mem_cons_self).1, rfl, 0, rfl⟩
  have N2' : News B L h2 [(16, tabObj #[]), (23, tabObj #[])] := fun p hp => N2 p (List.mem_cons_of_mem _ (List.mem_cons_of_mem _ hp))
  refine wpAny_Constant_int (subTail_ok hL2.typeIs slot_list_getitem.lookup (wpAny_getItem_list hL2 (by decide) (by decide) (by simpa using ex) ?_))
  refine call_abs_int fun u tk2 => ?_
  refine wpAny_BinOp (wpAny_Constant_int (wpAny_BinOp (wpAny_Name (wpAny_loadName_local rfl rfl F2.ns hz ?_) rfl)))
  refine wpAny_Name (wpAny_loadName_local rfl rfl F2.ns hz ?_) rfl
  have zz0 : 0 ≤ z * z := Int.mul_nonneg (by omega) (by omega)
  have zz1 : z * z ≤ 9 := by
    have : z = 1 ∨ z = 2 ∨ z = 3 := by omega
    rcases this with rfl | rfl | rfl <;> decide
  refine mul_int (pow_int_small zz0 (by omega) (by decide) ?_) ?_
  · have p0 : (0 : Int) < 2 ^ (z * z).toNat := Int.pow_pos (by decide)
    refine mod_int (by omega) ?_
    refine store_ok (d := .int ((if x < 0 then -x else x).fmod (2 ^ (z * z).toNat))) (s := { s with heap := h2, toks := _ }) (φ := [("size", .int z)]) (fr1 (a := a) (cd := cd) c F2 N2' fun y d q => ?_) rfl (by simp only [Rp]; exact ⟨_, rfl⟩) fun h3 tk3 F3 k3 => ?_
    · simp only [List.lookup_cons] at q
      split at q
      · rename_i e; cases q; exact ⟨eq_of_beq e, _, _, rfl, hz⟩
      · cases (show (none : Option D) = some d from q)
    · exact h _ h3 tk3 (Int.fmod_nonneg_of_pos _ p0) (Int.fmod_lt_of_pos _ p0) F3
  · have : z = 1 ∨ z = 2 ∨ z = 3 := by omega
    rcases this with rfl | rfl | rfl <;> mul_fits
end
end Mine
namespace Mine
open PySem PySem.Spec PySem.Calls PyProof.Rows PySem.W
set_option linter.unusedVariables false
set_option maxRecDepth 100000

section
variable {C : Cfg} {k : Nat} {G : Fn} {N : Nat} {sc : Sc} {env : Env} {φ : Ph} {A : Around} {X : Addr → Prop} {E : Value → Shared → Prop} {s : Shared}
/-- x, y = e1, e2 -/
theorem twoVals_ok {x y : Str} {px py pt pv pos : Pos} {kt kv : Nat} {e1 e2 : Expr} {d1 d2 : D} {Q : Flow → Shared → Prop} (CO : CfgOk C) (GO : GOk C k G) (K : Aok k A) (F : FrOk C X sc env φ s.heap) (he1 : ev G N sc φ e1 = some d1) (he2 : ev G N sc φ e2 = some d2) (hx : kindSt sc x = true) (hy : kindSt sc y = true)
    (hs1 : starEach [e1, e2] env = (false, eval e1 env) :: starEach [e2] env)
    (hs2 : starEach [e2] env = (false, eval e2 env) :: starEach [] env)
    (hw0 : swapsWithSole [.Tuple [.Name x px, .Name y py] kt pt] (.Tuple [e1, e2] kv pv) pos.line env = pure false)
    (hw : swappedStores [.Tuple [.Name x px, .Name y py] kt pt] (.Tuple [e1, e2] kv pv) env = pure (some [x, y]))
    (h : ∀ h' tk, FrOk C X sc env (setA x d1 (setA y d2 φ)) h' → Kp (Yf C sc env) s.heap h' → Q .next { s with heap := h', toks := tk }) :
    wpAny (model C.prog C.w) A (exec (.Assign [.Tuple [.Name x px, .Name y py] kt pt] (.Tuple [e1, e2] kv pv) pos) env) Q E s := by
  have EV := ev_ok CO GO N
  refine Assign_Tuple_swapped (names := [x, y]) (Tuple_ ?_) hw0 hw
  refine spliced_more (EV.1 X sc env φ e1 d1 he1 A s _ E K F.st fun v1 h1 tk1 H1 k1 r1 => ?_) hs1
  have F1 := F.kp H1 k1
  refine spliced_more (EV.1 X sc env φ e2 d2 he2 A { s with heap := h1, toks := tk1 } _ E K F1.st fun v2 h2 tk2 H2 k2 r2 => ?_) hs2
  have F2 := F1.kp H2 k2
  refine spliced_none (wpAny_newObj_type ?_ (by show _ ≤ sizeLine; rw [sizeLine_eq]; simp))
  dsimp only
  have g3 : (h2.push (tupO #[v1, v2] 0)).get? h2.objs.size = some (tupO #[v1, v2] 0) := Heap.get?_push_size _ rfl
  refine unpackItems_tuple K.handled (items := #[v1, v2]) ⟨_, g3, rfl, 0, rfl⟩ fun h4 hx4 => ?_
  have k4 : ∀ b o, h2.get? b = some o → h4.get? b = some o := fun b o e => hx4 b o (fun q => by
    have e' := Heap.lt_size (Heap.get?_push_of_some (tupO #[v1, v2] 0) e)
    rw [q] at e'
    exact Nat.lt_irrefl _ e') (Heap.get?_push_of_some _ e)
  have H4 : HOk C h4 := H2.keeps k4
  have F4 : FrOk C X sc env φ h4 := F2.kp H4 (Kp.of k4)
  have q1 : Rp X h4 d1 v1 := (r1.kp (h' := h2) k2 F1.st.x.tb).kp (Y := fun _ => False) (fun b o _ e => k4 b o e) fun _ q => q.elim
  have q2 : Rp X h4 d2 v2 := r2.kp (Y := fun _ => False) (fun b o _ e => k4 b o e) fun _ q => q.elim
  show wpAny (model C.prog C.w) A (do holding [v1] (bindName env y v2); assignInOrder [fun n => bindName env x n] [v1]) _ E _
  refine wpAny_bind (wpAny_holding (bindName_ (store_ok (d := d2) (s := { s with heap := h4, toks := tk2 }) F4 hy q2 fun h5 tk5 F5 k5 => ?_)))
  show wpAny (model C.prog C.w) A (do holding [] (bindName env x v1); assignInOrder [] []) _ E _
  have k5' : Kp (Yf C sc env) h4 h5 := k5.mono fun b q => .inr q
  refine wpAny_bind (wpAny_holding (bindName_ (store_ok (d := d1) (s := { s with heap := h5, toks := tk5 }) F5 hx (q1.kp k5' (Yf_X F4)) fun h6 tk6 F6 k6 => ?_)))
  have k6' : Kp (Yf C sc env) h5 h6 := k6.mono fun b q => .inr q
  refine wpAny_pure ?_
  exact h h6 tk6 F6 ((((k1.yf.trans k2.yf).trans (Kp.of k4)).trans k5').trans k6')
end

noncomputable def tE : Stmt → Nat → Expr
  | .Assign [.Tuple _ _ _] (.Tuple l _ _) _, i => l.getD i (.Name "x" default)
  | _, _ => .Name "x" default
noncomputable def eO : Expr := tE st5 0
noncomputable def eZ : Expr := tE st5 1

/-- what is left to show in plain Lean of one board -/
noncomputable def Board (z x : Int) : Prop := ∃ φ a b φ', exB (exS G1 30 30 n73) qA (setA "number" (.int x) [("size", .int z)]) = some (φ, none) ∧ ev G1 30 n73 φ eO = some a ∧ ev G1 30 n73 φ eZ = some b ∧
  exB (exS G1 30 30 n73) qB (setA "ones" a (setA "noughts" b φ)) = some (φ', some (.bool true))
noncomputable def Plain1 : Prop := ∀ z x : Int, 1 ≤ z → z ≤ 3 → 0 ≤ x → x < 2 ^ (z * z).toNat → Board z x

section
variable {w : World} {B : Heap} {mg mb : Str → Option Value} {loose : List Str} {mean : ExcName → Option Value} {L a : Addr} {cd : Value} {m : Str → Option Value} {h : Heap}
/-- the law's walk -/
theorem walk1 (c : Ctx1 w B mg mb loose mean) (pl : Plain1) {A : Around} {s : Shared} {l : Addr} {vs : List Value} {ns : List Int} {Q : Flow → Shared → Prop} {E : Value → Shared → Prop} (K : Aok 10 A) (F : Fr B L s.heap m) (hm : m "script" = some (.ref l)) (N : News B L s.heap [(16, tabObj #[]), (23, tabObj #[])])
    (hl : B.IsList l vs.toArray) (hI : IntsAre vs ns) (hlen : ns.length ≤ 63) (h : ∀ h' tk, HOk (C1 w B mg mb) h' → Q (.ret (.bool true)) { s with heap := h', toks := tk }) :
    wpAny (model (C1 w B mg mb).prog (C1 w B mg mb).w) A (execs b73 (env1 L a cd)) Q E s := by
  have CO := c.cfg
  have GO := c.G1
  have EX : SOk (C1 w B mg mb) 10 n73 (exS G1 30 30 n73) := exS_ok CO GO 30 30 n73
  rw [b73_eq]
  refine wpAny_execs_cons (head1 (a := a) (cd := cd) c K.handled F hm N hl hI fun z t h1 tk1 m' z0 z1 F1 hz hm' N1 => ?_)
  refine wpAny_execs_cons (head2 (s := { s with heap := h1, toks := tk1 }) (a := a) (cd := cd) c K.handled F1 hm' hz z0 z1 N1 hl hI (by have := hI.length; omega) fun x h2 tk2 x0 x1 F2 => ?_)
  obtain ⟨φ, dO, dZ, φ', e1, e2, e3, e4⟩ := pl z x z0 z1 x0 x1
  generalize X1 w B mg mb L = X at F2
  refine exB_app EX K qA _ φ { s with heap := h2, toks := tk2 } e1 F2 fun h3 tk3 F3 _ => ?_
  refine wpAny_execs_cons (twoVals_ok (s := { s with heap := h3, toks := tk3 }) (N := 30) CO GO K F3 e2 e3 rfl rfl rfl rfl rfl rfl fun h4 tk4 F4 _ => ?_)
  refine exB_ok EX qB _ _ e4 A X (env1 L a cd) { s with heap := h4, toks := tk4 } _ _ K F4 fun h5 tk5 F5 _ => ?_
  intro v rv
  simp only [Rp] at rv; subst rv
  exact h h5 tk5 F5.st.H
theorem aok0 {env : Env} : Aok 10 (callerA.deeper env) := Aok.deeper (k := 10) ⟨rfl, by decide +kernel, by decide +kernel⟩
theorem good1 {cl : Str → Option Addr} {mean : ExcName → Option Value} {args : List WData} {s : Shared} {h' : Heap} {w : World} {mg mb : Str → Option Value} (hg : s.gens = #[]) (H : HOk (C1 w s.heap mg mb) h') (st : Shared) (e1 : st.heap = h') (e2 : st.os = s.os) (e3 : st.gens = s.gens) :
    GoodW PySem.Challenge.rw_gg0004_01.row.claim cl mean args s (.ok (.ret (.bool true))) st ∧ GrownAll [(27, 23), (20, 16)] st.heap := by
  subst e1
  refine ⟨⟨.inl ⟨.bool true, .bool true, [], rfl, fun _ => rfl, .bool true, (by first | rfl | (with_unfolding_all rfl) | wrow_post | skip), fun _ => ⟨.nil, fun _ h => by cases h⟩⟩, H.base, e2, e3.trans hg⟩, ?_, ?_, trivial⟩
  · obtain ⟨ps, e, _⟩ := H.tabs _ (List.mem_cons_of_mem _ List.mem_cons_self)
    exact ⟨ps, e⟩
  · obtain ⟨ps, e, _⟩ := H.tabs _ List.mem_cons_self
    exact ⟨ps, e⟩
end
end Mine
namespace Mine
open PySem PySem.Spec PySem.Calls PyProof.Rows PySem.W
set_option linter.unusedVariables false
set_option maxRecDepth 100000
set_option Elab.async false

noncomputable def ifT : Stmt → Expr
  | .If t _ _ _ => t
  | _ => .Name "x" default
noncomputable def ifB : Stmt → List Stmt
  | .If _ b _ _ => b
  | _ => []
noncomputable def ifO : Stmt → List Stmt
  | .If _ _ o _ => o
  | _ => []
noncomputable def whT : Stmt → Expr
  | .While t _ _ _ => t
  | _ => .Name "x" default
noncomputable def whB : Stmt → List Stmt
  | .While _ b _ _ => b
  | _ => []
noncomputable def b46 : List Stmt := sBody f46
noncomputable def n46 : Sc := sNames f46
noncomputable def s46 (i : Nat) : Stmt := b46.getD i (.Pass default)
noncomputable def w46 : Stmt := (ifB (s46 2)).getD 0 (.Pass default)
noncomputable def tW (φ : Ph) : Option Bool := (ev Gb 30 n46 φ (whT w46)).bind truthD
noncomputable def bW (φ : Ph) : Option Out := exB (exS Gb 30 28 n46) (whB w46) φ
noncomputable def i46 : Stmt := (whB w46).getD 1 (.Pass default)
noncomputable def stB (l : List D) (x : D) (lo hi : Int) : Option Int → Ph
  | none => [("a", .lst l), ("x", x), ("lo", .int lo), ("hi", .int hi), ("key", .none)]
  | some k => [("a", .lst l), ("x", x), ("lo", .int lo), ("hi", .int hi), ("key", .none), ("mid", .int k)]
noncomputable abbrev φ46 (l : List D) (x : D) : Ph := [("a", .lst l), ("x", x), ("lo", .int 0), ("hi", .none), ("key", .none)]
theorem b46_eq : b46 = [s46 0, s46 1, s46 2, s46 3] := by kernel_rfl
theorem s46_0 (l : List D) (x : D) : exS Gb 30 30 n46 (φ46 l x) (s46 0) = some (φ46 l x, none) := by kernel_rfl
theorem s46_1 (l : List D) (x : D) : exS Gb 30 30 n46 (φ46 l x) (s46 1) =
    Option.bind (Option.map (fun d => ((setA "hi" d (φ46 l x), none) : Out)) (if decide (l.length ≤ 1000) = true then some (.int l.length) else none)) fun o => match o.2 with
      | none => some (o.1, none)
      | some _ => some o := by kernel_rfl
theorem s46_2 (l : List D) (x : D) (lo hi : Int) : exS Gb 30 30 n46 (stB l x lo hi none) (s46 2) =
    Option.bind (whileD tW bW 28 (stB l x lo hi none)) fun o => match o.2 with
      | none => some (o.1, none)
      | some _ => some o := by kernel_rfl
theorem s46_3 (l : List D) (x : D) (lo hi : Int) (mm : Option Int) : exS Gb 30 30 n46 (stB l x lo hi mm) (s46 3) = some (stB l x lo hi mm, some (.int lo)) := by cases mm <;> kernel_rfl
theorem tW_eq (l : List D) (x : D) (lo hi : Int) (mm : Option Int) : tW (stB l x lo hi mm) = some (decide (lo < hi)) := by cases mm <;> kernel_rfl
theorem bW_eq0 (l : List D) (x : D) (lo hi : Int) (mm : Option Int) : bW (stB l x lo hi mm) =
    Option.bind (Option.bind (Option.bind (idxD l ((lo + hi).fdiv 2)) fun a => Option.map D.bool (cmpD .Lt a x)) fun d => Option.bind (truthD d) fun c => exB (exS Gb 30 27 n46) (if c then ifB i46 else ifO i46) (stB l x lo hi (some ((lo + hi).fdiv 2)))) fun o => match o.2 with
      | none => some (o.1, none)
      | some _ => some o := by
  cases mm <;> kernel_rfl
theorem bW_eq (l : List D) (x d : D) (lo hi : Int) (mm : Option Int) (b : Bool) (h1 : idxD l ((lo + hi).fdiv 2) = some d) (h2 : cmpD .Lt d x = some b) :
    bW (stB l x lo hi mm) = some (if b then stB l x ((lo + hi).fdiv 2 + 1) hi (some ((lo + hi).fdiv 2)) else stB l x lo ((lo + hi).fdiv 2) (some ((lo + hi).fdiv 2)), none) := by
  rw [bW_eq0, h1, Option.bind_some, h2]
  cases b <;> kernel_rfl
theorem mid_eq (lo hi : Nat) : ((lo : Int) + hi).fdiv 2 = (((lo + hi) / 2 : Nat) : Int) := by
  rw [Int.fdiv_eq_ediv_of_nonneg _ (by decide)]; omega
theorem mid_in {lo hi : Nat} (q : lo < hi) : lo ≤ (lo + hi) / 2 ∧ (lo + hi) / 2 < hi := by omega
theorem idxD_nat {l : List D} {i : Nat} {d : D} (h : l[i]? = some d) (hi : i < 1000000) : idxD l (i : Int) = some d := by
  unfold idxD
  rw [decide_eq_true (Int.natCast_nonneg i), decide_eq_true (show (i : Int) < 1000000 from Int.ofNat_lt.mpr hi), if_pos (show (true && true) = true from rfl), Int.toNat_natCast]; exact h
theorem fuel1 {lo hi m n : Nat} (b1 : lo ≤ m) (h : hi - lo < n + 1) (q : lo < hi) : hi - (m + 1) < n := by omega
theorem fuel2 {lo hi m n : Nat} (b1 : lo ≤ m) (b2 : m < hi) (h : hi - lo < n + 1) : m - lo < n := by omega
theorem loop_eq {l : List D} {x : D} {p : Nat} (hp : ∀ i d, l[i]? = some d → cmpD .Lt d x = some (decide (i < p))) (hl : l.length ≤ 1000) : ∀ (n lo hi : Nat) (mm : Option Int), lo ≤ p → p ≤ hi → hi ≤ l.length → hi - lo < n →
    ∃ mm', whileD tW bW n (stB l x lo hi mm) = some (stB l x p p mm', none)
  | 0, _, _, _, _, _, _, h => absurd h (Nat.not_lt_zero _)
  | n + 1, lo, hi, mm, h1, h2, h3, h4 => by
    rw [whileD, tW_eq, Option.bind_some]
    by_cases q : lo < hi
    · rw [decide_eq_true (Int.ofNat_lt.mpr q), if_pos rfl]
      obtain ⟨b1, b2⟩ := mid_in q
      have em := mid_eq lo hi
      generalize (lo + hi) / 2 = m at b1 b2 em
      have hm : m < l.length := Nat.lt_of_lt_of_le b2 h3
      have hd : l[m]? = some l[m] := List.getElem?_eq_getElem hm
      have hi' : idxD l (((lo : Int) + hi).fdiv 2) = some l[m] := em ▸ idxD_nat hd (Nat.lt_of_lt_of_le hm (Nat.le_trans hl (by decide)))
      rw [bW_eq l x _ lo hi mm _ hi' (hp _ _ hd), em]
      dsimp only [Option.bind_some]
      by_cases r : m < p
      · rw [decide_eq_true r, if_pos rfl]
        obtain ⟨mm', e⟩ := loop_eq hp hl n (m + 1) hi (some (m : Int)) r h2 h3 (fuel1 b1 h4 q)
        exact ⟨mm', e⟩
      · rw [decide_eq_false r, if_neg (by decide)]
        exact loop_eq hp hl n lo m (some (m : Int)) h1 (Nat.le_of_not_lt r) (Nat.le_of_lt hm) (fuel2 b1 b2 h4)
    · rw [decide_eq_false (fun h => q (Int.ofNat_lt.mp h)), if_neg (by decide)]
      obtain rfl : lo = p := Nat.le_antisymm h1 (Nat.le_trans h2 (Nat.le_of_not_lt q))
      obtain rfl : hi = lo := Nat.le_antisymm (Nat.le_of_not_lt q) h2
      exact ⟨mm, rfl⟩
theorem gB_eq {l : List D} {x : D} {p : Nat} (hp : ∀ i d, l[i]? = some d → cmpD .Lt d x = some (decide (i < p))) (hpl : p ≤ l.length) (hl : l.length ≤ 27) : gB [.lst l, x] = some (.int p) := by
  show (exB (exS Gb 30 30 n46) b46 (φ46 l x)).bind (·.2) = _
  obtain ⟨mm, e⟩ := loop_eq (x := x) hp (by omega) 28 0 l.length none (Nat.zero_le _) hpl (Nat.le_refl _) (by omega)
  have e1 : exS Gb 30 30 n46 (φ46 l x) (s46 1) = some (stB l x 0 l.length none, none) := by
    rw [s46_1, if_pos (by simpa using (by omega : l.length ≤ 1000))]
    kernel_rfl
  have e2 : exS Gb 30 30 n46 (stB l x 0 l.length none) (s46 2) = some (stB l x p p mm, none) := by
    rw [s46_2]
    have : whileD tW bW 28 (stB l x 0 l.length none) = some (stB l x p p mm, none) := e
    rw [this]; rfl
  rw [b46_eq]
  simp only [exB, s46_0, e1, e2, s46_3, Option.bind_some]
end Mine
namespace Mine
open PySem PySem.Spec PySem.Calls PyProof.Rows PySem.W
set_option linter.unusedVariables false
set_option maxRecDepth 100000
set_option Elab.async false

theorem gIns_eq0 (l : List D) (x : D) : gIns x l = Option.bind (gB [.lst l, x, .int 0, .none]) fun p => match p with
    | .int p => if (decide (0 ≤ p) && decide (p ≤ l.length) && decide (l.length ≤ 1000)) = true then some (l.take p.toNat ++ x :: l.drop p.toNat) else none
    | _ => none := by kernel_rfl
theorem gIns_eq {l : List D} {x : D} {p : Nat} (hp : ∀ i d, l[i]? = some d → cmpD .Lt d x = some (decide (i < p))) (hpl : p ≤ l.length) (hl : l.length ≤ 27) : gIns x l = some (l.take p ++ x :: l.drop p) := by
  have e : gB [.lst l, x, .int 0, .none] = some (.int p) := gB_eq hp hpl hl
  rw [gIns_eq0, e]
  dsimp only [Option.bind_some]
  rw [if_pos (by simp; omega), Int.toNat_natCast]

noncomputable def andD (c : Bool) (d : D) (X : Option D) : Option D := match BoolOp.And, c with
  | .And, false => some d
  | .Or, true => some d
  | _, _ => X
theorem andD_t (d : D) (X : Option D) : andD true d X = X := rfl
theorem andD_f (d : D) (X : Option D) : andD false d X = some d := rfl
theorem truthD_b (b : Bool) : truthD (.bool b) = some b := rfl
noncomputable def b53 : List Stmt := sBody f53
noncomputable def n53 : Sc := sNames f53
noncomputable def s53 (i : Nat) : Stmt := b53.getD i (.Pass default)
noncomputable abbrev φ53 (l : List D) (x : D) : Ph := [("order", .lst l), ("one", x)]
noncomputable abbrev ψ53 (l : List D) (x : D) (p : Int) : Ph := [("order", .lst l), ("one", x), ("place", .int p)]
theorem b53_eq : b53 = [s53 0, s53 1] := by kernel_rfl
theorem s53_0 (l : List D) (x : D) : exS GB 30 30 n53 (φ53 l x) (s53 0) = Option.map (fun d => ((setA "place" d (φ53 l x), none) : Out)) (gB [.lst l, x]) := by kernel_rfl
theorem s53_1 (l : List D) (x : D) (p : Int) : exS GB 30 30 n53 (ψ53 l x p) (s53 1) = Option.map (fun d => ((ψ53 l x p, some d) : Out))
    (Option.bind (Option.bind (if decide (l.length ≤ 1000) = true then some (.int l.length) else none) fun b => Option.map D.bool (cmpD .Lt (.int p) b)) fun d => Option.bind (truthD d) fun c =>
      andD c d (Option.bind (idxD l p) fun a => Option.map D.bool (cmpD .Eq a x))) := by kernel_rfl
theorem gH_eq {l : List D} {x : D} {p : Nat} {q : Bool} (hp : ∀ i d, l[i]? = some d → cmpD .Lt d x = some (decide (i < p))) (hpl : p ≤ l.length) (hl : l.length ≤ 27)
    (hq : ∀ d, l[p]? = some d → cmpD .Eq d x = some q) (hn : p = l.length → q = false) : gH [.lst l, x] = some (.bool q) := by
  show (exB (exS GB 30 30 n53) b53 (φ53 l x)).bind (·.2) = _
  have e0 : exS GB 30 30 n53 (φ53 l x) (s53 0) = some (ψ53 l x p, none) := by
    rw [s53_0, gB_eq hp hpl hl]; kernel_rfl
  have e1 : exS GB 30 30 n53 (ψ53 l x p) (s53 1) = some (ψ53 l x p, some (.bool q)) := by
    rw [s53_1, if_pos (by simpa using (by omega : l.length ≤ 1000))]
    have hc : cmpD .Lt (.int p) (.int l.length) = some (decide ((p : Int) < l.length)) := rfl
    rw [Option.bind_some, hc, Option.map_some, Option.bind_some]
    by_cases h : p < l.length
    · rw [decide_eq_true (by omega : (p : Int) < l.length)]
      rw [truthD_b, Option.bind_some, andD_t]
      have hi : idxD l (p : Int) = some l[p] := by
        unfold idxD
        rw [if_pos (by simp; omega), Int.toNat_natCast]; exact List.getElem?_eq_getElem h
      rw [hi, Option.bind_some, hq _ (List.getElem?_eq_getElem h)]
      simp only [Option.map_some]
    · rw [decide_eq_false (by omega : ¬ (p : Int) < l.length), hn (by omega)]
      rw [truthD_b, Option.bind_some, andD_f, Option.map_some]
  rw [b53_eq]
  simp only [exB, e0, e1, Option.bind_some]
end Mine
namespace Mine
open PySem PySem.Spec PySem.Calls PyProof.Rows PySem.W
set_option linter.unusedVariables false
set_option maxRecDepth 100000
set_option Elab.async false

noncomputable def n63 : Sc := sNames f63
noncomputable abbrev φ63 (b : D) (n c sd : Int) : Ph := [("colours", b), ("size", .int n), ("colour", .int c), ("side", .int sd)]
theorem s63_1 (b : D) (n : Int) : exS GA 30 30 n63 [("colours", b), ("size", .int n), ("colour", .int 1)] J63.s0 = some (φ63 b n 1 0, none) := by kernel_rfl
theorem s63_0 (b : D) (n : Int) : exS GA 30 30 n63 [("colours", b), ("size", .int n), ("colour", .int 0)] J63.s0 = some (φ63 b n 0 1, none) := by kernel_rfl
theorem ne63 (b cell : D) (n c sd : Int) : ev GA 30 n63 ((J63.cx, cell) :: φ63 b n c sd) J63.ne = gN [cell, .int n] := by kernel_rfl
theorem t3_63 (ks : List (Int × Int)) (vs w o : List D) (cell : D) (i j n c sd : Int) :
    ev GA 30 n63 ((J63.wx, .lst w) :: (J63.ox, .lst o) :: (J63.thx, .tup [.int i, .int j]) :: (J63.cx, cell) :: φ63 (.dct ks vs) n c sd) J63.t3 =
    Option.bind (Option.bind (dget ks vs (i, j)) fun a => Option.map D.bool (cmpD .Eq a (.int c))) fun d => Option.bind (truthD d) fun b =>
      andD b d (Option.bind (gH [.lst o, .tup [.int i, .int j]]) fun a => Option.map (fun b => D.bool !b) (truthD a)) := by kernel_rfl
theorem t1_63 (bd cell : D) (w o : List D) (n c sd : Int) : ev GA 30 n63 ((J63.wx, .lst w) :: (J63.ox, .lst o) :: (J63.cx, cell) :: φ63 bd n c sd) J63.t1 =
    Option.bind (if decide (w.length ≤ 1000) = true then some (.int w.length) else none) fun a => Option.bind (if small n = true then some (.int (n * n)) else none) fun b => Option.map D.bool (cmpD .Gt a b) := by kernel_rfl
end Mine
namespace Mine
open PySem PySem.Spec PySem.Calls PyProof.Rows PySem.W
set_option linter.unusedVariables false
set_option maxRecDepth 100000
set_option Elab.async false

noncomputable def lcE : Expr → Option (Expr × Comprehension × Scope)
  | .ListComp elt [g] sc _ => some (elt, g, sc)
  | _ => none
noncomputable def cmL : Expr → Expr
  | .Compare l _ _ _ => l
  | e => e
noncomputable def we3 : Expr × Comprehension × Scope := (lcE J63.we).get rfl
noncomputable def re3 : Expr × Comprehension × Scope := (lcE (cmL J63.re)).get rfl
noncomputable def fW : Ph → Expr → Option D := ev GA 29 we3.2.2.names
noncomputable def fR : Ph → Expr → Option D := ev GA 28 re3.2.2.names
noncomputable def χW (b : D) (n c sd : Int) : Ph := keepFree we3.2.2.names (φ63 b n c sd)
noncomputable def χR (w o : List D) (b : D) (n c sd : Int) : Ph := keepFree re3.2.2.names ((J63.wx, .lst w) :: (J63.ox, .lst o) :: φ63 b n c sd)
theorem we_eq (ks : List (Int × Int)) (vs : List D) (n c sd : Int) : ev GA 30 n63 (φ63 (.dct ks vs) n c sd) J63.we =
    Option.bind (if decide (ks.length ≤ 1000) = true then some (ks.map keyD) else none) fun its => Option.bind (evComp fW we3.1 [we3.2.1] its (χW (.dct ks vs) n c sd)) fun l => if decide (l.length ≤ 1000) = true then some (.lst l) else none := by kernel_rfl
theorem re_eq (w o : List D) (b : D) (n c sd : Int) : ev GA 30 n63 ((J63.wx, .lst w) :: (J63.ox, .lst o) :: φ63 b n c sd) J63.re =
    Option.bind (Option.bind (if decide (o.length ≤ 1000) = true then some o else none) fun its => Option.bind (evComp fR re3.1 [re3.2.1] its (χR w o b n c sd)) fun l => if decide (l.length ≤ 1000) = true then some (.lst l) else none) fun a =>
      Option.map D.bool (cmpD .NotEq a (.lst [])) := by kernel_rfl
noncomputable def tgN : Expr → Str
  | .Name x _ => x
  | _ => "x"
theorem we_g : we3.2.1 = ⟨.Name "cell" (match we3.2.1.target with | .Name _ p => p | _ => default), we3.2.1.iter, we3.2.1.ifs, 0⟩ := by kernel_rfl
theorem re_g : re3.2.1 = ⟨.Name "cell" (match re3.2.1.target with | .Name _ p => p | _ => default), re3.2.1.iter, re3.2.1.ifs, 0⟩ := by kernel_rfl
theorem we_t0 (ks : List (Int × Int)) (vs : List D) (i j n c : Int) : turnOut fW we3.1 [] we3.2.1.ifs (setA "cell" (keyD (i, j)) (χW (.dct ks vs) n c 0)) =
    Option.bind (Option.bind (andD (i == 0) (.bool (i == 0)) (Option.bind (dget ks vs (i, j)) fun a => Option.map D.bool (cmpD .Eq a (.int c)))) fun d => Option.bind (truthD d) fun b => if b = true then some true else some false) fun ok =>
      if ok = true then some [keyD (i, j)] else some [] := by kernel_rfl
theorem we_t1 (ks : List (Int × Int)) (vs : List D) (i j n c : Int) : turnOut fW we3.1 [] we3.2.1.ifs (setA "cell" (keyD (i, j)) (χW (.dct ks vs) n c 1)) =
    Option.bind (Option.bind (andD (j == 0) (.bool (j == 0)) (Option.bind (dget ks vs (i, j)) fun a => Option.map D.bool (cmpD .Eq a (.int c)))) fun d => Option.bind (truthD d) fun b => if b = true then some true else some false) fun ok =>
      if ok = true then some [keyD (i, j)] else some [] := by kernel_rfl
theorem re_t0 (w o : List D) (b : D) (i j n c : Int) : turnOut fR re3.1 [] re3.2.1.ifs (setA "cell" (keyD (i, j)) (χR w o b n c 0)) = if (i == n - 1) = true then some [keyD (i, j)] else some [] := by
  have : turnOut fR re3.1 [] re3.2.1.ifs (setA "cell" (keyD (i, j)) (χR w o b n c 0)) = Option.bind (if (i == n - 1) = true then some true else some false) fun ok => if ok = true then some [keyD (i, j)] else some [] := by kernel_rfl
  rw [this]
  cases (i == n - 1) <;> rfl
theorem re_t1 (w o : List D) (b : D) (i j n c : Int) : turnOut fR re3.1 [] re3.2.1.ifs (setA "cell" (keyD (i, j)) (χR w o b n c 1)) = if (j == n - 1) = true then some [keyD (i, j)] else some [] := by
  have : turnOut fR re3.1 [] re3.2.1.ifs (setA "cell" (keyD (i, j)) (χR w o b n c 1)) = Option.bind (if (j == n - 1) = true then some true else some false) fun ok => if ok = true then some [keyD (i, j)] else some [] := by kernel_rfl
  rw [this]
  cases (j == n - 1) <;> rfl
end Mine
namespace Mine
open PySem PySem.Spec PySem.Calls PyProof.Rows PySem.W
set_option linter.unusedVariables false
set_option maxRecDepth 100000
set_option Elab.async false

noncomputable abbrev Pr := Int × Int
noncomputable def pl (a b : Pr) : Bool := decide (a.1 < b.1) || (decide (a.1 = b.1) && decide (a.2 < b.2))
theorem lt_key (a b : Pr) : cmpD .Lt (keyD a) (keyD b) = some (pl a b) := rfl
theorem eq_key (a b : Pr) : cmpD .Eq (keyD a) (keyD b) = some (decide (a = b)) := by
  have e : cmpD .Eq (keyD a) (keyD b) = some (PyData.eqv (.tuple [.int a.1, .int a.2]) (.tuple [.int b.1, .int b.2])) := rfl
  rw [e]
  obtain ⟨a1, a2⟩ := a
  obtain ⟨b1, b2⟩ := b
  simp [PyData.eqv, PyData.eqvAll]
  have q : ∀ x y : Int, (x == y) = decide (x = y) := fun x y => by by_cases h : x = y <;> simp [h]
  rw [q, q]
noncomputable def posP (o : List Pr) (x : Pr) : Nat := (o.takeWhile fun y => pl y x).length
noncomputable def okP (o : List Pr) (x : Pr) : Bool := decide (o.length ≤ 27) && (o.drop (posP o x)).all fun y => !pl y x
theorem posP_le (o : List Pr) (x : Pr) : posP o x ≤ o.length := (List.takeWhile_sublist _).length_le
theorem posP_hp {o : List Pr} {x : Pr} (h : okP o x = true) : ∀ i d, (o.map keyD)[i]? = some d → cmpD .Lt d (keyD x) = some (decide (i < posP o x)) := by
  intro i d e
  simp only [okP, Bool.and_eq_true, decide_eq_true_eq, List.all_eq_true, Bool.not_eq_true'] at h
  rw [List.getElem?_map, Option.map_eq_some_iff] at e
  obtain ⟨y, e, rfl⟩ := e
  rw [lt_key]
  congr 1
  by_cases q : i < posP o x
  · have : (o.takeWhile fun y => pl y x)[i]? = some y := by
      rw [List.getElem?_eq_getElem q]
      have := (List.takeWhile_prefix (fun y => pl y x) (l := o)).getElem q
      rw [this]
      obtain ⟨hh, e'⟩ := List.getElem?_eq_some_iff.mp e
      rw [← e']
    have hm : pl y x = true := List.all_eq_true.mp (List.all_takeWhile (p := fun y => pl y x) (l := o)) y (List.mem_of_getElem? this)
    rw [hm]; simp [q]
  · have : (o.drop (posP o x))[i - posP o x]? = some y := by
      rw [List.getElem?_drop, show posP o x + (i - posP o x) = i by omega]; exact e
    rw [h.2 y (List.mem_of_getElem? this)]; simp [q]
noncomputable def hasP (o : List Pr) (x : Pr) : Option Bool := if okP o x then some (match o.drop (posP o x) with
  | [] => false
  | y :: _ => decide (y = x)) else none
noncomputable def insP (x : Pr) (o : List Pr) : Option (List Pr) := if okP o x then some (o.take (posP o x) ++ x :: o.drop (posP o x)) else none
theorem insP_ok {o o' : List Pr} {x : Pr} (h : insP x o = some o') : gIns (keyD x) (o.map keyD) = some (o'.map keyD) := by
  unfold insP at h
  split at h
  · rename_i q
    cases h
    rw [gIns_eq (posP_hp q) (by simpa using posP_le o x) (by simp only [okP, Bool.and_eq_true, decide_eq_true_eq] at q; simpa using q.1)]
    simp [List.map_take, List.map_drop]
  · cases h
theorem hasP_ok {o : List Pr} {x : Pr} {b : Bool} (h : hasP o x = some b) : gH [.lst (o.map keyD), keyD x] = some (.bool b) := by
  unfold hasP at h
  split at h
  · rename_i q
    cases h
    refine gH_eq (posP_hp q) (by simpa using posP_le o x) (by simp only [okP, Bool.and_eq_true, decide_eq_true_eq] at q; simpa using q.1) (fun d e => ?_) fun e => ?_
    · rw [List.getElem?_map, Option.map_eq_some_iff] at e
      obtain ⟨y, e, rfl⟩ := e
      have : (o.drop (posP o x))[0]? = some y := by rw [List.getElem?_drop]; exact e
      cases r : o.drop (posP o x) with
      | nil => rw [r] at this; simp at this
      | cons z t => rw [r] at this; simp at this; subst this; rw [eq_key]
    · rw [List.length_map] at e
      have : o.drop (posP o x) = [] := List.drop_eq_nil_of_le (by omega)
      rw [this]
  · cases h
end Mine
namespace Mine
open PySem PySem.Spec PySem.Calls PyProof.Rows PySem.W
set_option linter.unusedVariables false
set_option maxRecDepth 100000
set_option Elab.async false

/-- the neighbours of the cells of the three boards -/
noncomputable def nearTab : List ((Int × Pr) × List Pr) := [
  ((1, (0, 0)), []),
  ((2, (0, 0)), [(0, 1), (1, 0)]),
  ((2, (0, 1)), [(0, 0), (1, 1), (1, 0)]),
  ((2, (1, 0)), [(1, 1), (0, 0), (0, 1)]),
  ((2, (1, 1)), [(1, 0), (0, 1)]),
  ((3, (0, 0)), [(0, 1), (1, 0)]),
  ((3, (0, 1)), [(0, 2), (0, 0), (1, 1), (1, 0)]),
  ((3, (0, 2)), [(0, 1), (1, 2), (1, 1)]),
  ((3, (1, 0)), [(1, 1), (2, 0), (0, 0), (0, 1)]),
  ((3, (1, 1)), [(1, 2), (1, 0), (2, 1), (0, 1), (0, 2), (2, 0)]),
  ((3, (1, 2)), [(1, 1), (2, 2), (0, 2), (2, 1)]),
  ((3, (2, 0)), [(2, 1), (1, 0), (1, 1)]),
  ((3, (2, 1)), [(2, 2), (2, 0), (1, 1), (1, 2)]),
  ((3, (2, 2)), [(2, 1), (1, 2)])]
noncomputable def nearChk (e : (Int × Pr) × List Pr) : Prop := gN [keyD e.1.2, .int e.1.1] = some (.lst (e.2.map keyD))
theorem near_0 : nearChk ((1, (0, 0)), []) := by unfold nearChk; kernel_rfl
theorem near_1 : nearChk ((2, (0, 0)), [(0, 1), (1, 0)]) := by unfold nearChk; kernel_rfl
theorem near_2 : nearChk ((2, (0, 1)), [(0, 0), (1, 1), (1, 0)]) := by unfold nearChk; kernel_rfl
theorem near_3 : nearChk ((2, (1, 0)), [(1, 1), (0, 0), (0, 1)]) := by unfold nearChk; kernel_rfl
theorem near_4 : nearChk ((2, (1, 1)), [(1, 0), (0, 1)]) := by unfold nearChk; kernel_rfl
theorem near_5 : nearChk ((3, (0, 0)), [(0, 1), (1, 0)]) := by unfold nearChk; kernel_rfl
theorem near_6 : nearChk ((3, (0, 1)), [(0, 2), (0, 0), (1, 1), (1, 0)]) := by unfold nearChk; kernel_rfl
theorem near_7 : nearChk ((3, (0, 2)), [(0, 1), (1, 2), (1, 1)]) := by unfold nearChk; kernel_rfl
theorem near_8 : nearChk ((3, (1, 0)), [(1, 1), (2, 0), (0, 0), (0, 1)]) := by unfold nearChk; kernel_rfl
theorem near_9 : nearChk ((3, (1, 1)), [(1, 2), (1, 0), (2, 1), (0, 1), (0, 2), (2, 0)]) := by unfold nearChk; kernel_rfl
theorem near_10 : nearChk ((3, (1, 2)), [(1, 1), (2, 2), (0, 2), (2, 1)]) := by unfold nearChk; kernel_rfl
theorem near_11 : nearChk ((3, (2, 0)), [(2, 1), (1, 0), (1, 1)]) := by unfold nearChk; kernel_rfl
theorem near_12 : nearChk ((3, (2, 1)), [(2, 2), (2, 0), (1, 1), (1, 2)]) := by unfold nearChk; kernel_rfl
theorem near_13 : nearChk ((3, (2, 2)), [(2, 1), (1, 2)]) := by unfold nearChk; kernel_rfl
theorem near_all : ∀ e ∈ nearTab, nearChk e := by
  simp only [nearTab, List.forall_mem_cons]
  exact ⟨near_0, near_1, near_2, near_3, near_4, near_5, near_6, near_7, near_8, near_9, near_10, near_11, near_12, near_13, fun _ h => nomatch h⟩
noncomputable def nearP (n : Int) (c : Pr) : Option (List Pr) := (nearTab.find? fun e => decide (e.1 = (n, c))).map (·.2)
theorem nearP_ok {n : Int} {c : Pr} {l : List Pr} (h : nearP n c = some l) : gN [keyD c, .int n] = some (.lst (l.map keyD)) := by
  unfold nearP at h
  rw [Option.map_eq_some_iff] at h
  obtain ⟨e, h1, rfl⟩ := h
  have h2 := near_all e (List.mem_of_find?_eq_some h1)
  have h3 := List.find?_some h1
  simp only [decide_eq_true_eq] at h3
  unfold nearChk at h2
  rw [h3] at h2
  exact h2
end Mine
namespace Mine
open PySem PySem.Spec PySem.Calls PyProof.Rows PySem.W
set_option linter.unusedVariables false
set_option maxRecDepth 100000
set_option Elab.async false

noncomputable def cget : List Pr → List Int → Pr → Option Int
  | k :: ks, v :: vs, q => if k = q then some v else cget ks vs q
  | _, _, _ => none
theorem cget_ok : ∀ (ks : List Pr) (vs : List Int) (q : Pr), dget ks (vs.map D.int) q = (cget ks vs q).map D.int
  | [], _, _ => by simp [dget, cget]
  | _ :: _, [], _ => by simp [dget, cget]
  | k :: ks, v :: vs, q => by
    simp only [List.map_cons, dget, cget]
    split
    · rfl
    · exact cget_ok ks vs q
noncomputable def sdP (sd : Bool) (x : Pr) : Int := if sd then x.2 else x.1
noncomputable def sdI (sd : Bool) : Int := if sd then 1 else 0
noncomputable def wP (ks : List Pr) (vs : List Int) (c : Int) (sd : Bool) : List Pr → Option (List Pr)
  | [] => some []
  | x :: r => (if sdP sd x == 0 then (cget ks vs x).map (· == c) else some false).bind fun b => (wP ks vs c sd r).map fun t => if b then x :: t else t
theorem we_turn {ks : List Pr} {vs : List Int} {n c : Int} {sd : Bool} {x : Pr} {b : Bool} (h : (if sdP sd x == 0 then (cget ks vs x).map (· == c) else some false) = some b) :
    turnOut fW we3.1 [] we3.2.1.ifs (setA "cell" (keyD x) (χW (.dct ks (vs.map D.int)) n c (sdI sd))) = some (if b then [keyD x] else []) := by
  have key : ∀ (e : Bool) (X : Option D), (X = (cget ks vs x).map fun v => D.bool (v == c)) → (if e then (cget ks vs x).map (· == c) else some false) = some b →
      (Option.bind (Option.bind (andD e (.bool e) X) fun d => Option.bind (truthD d) fun b => if b = true then some true else some false) fun ok => if ok = true then some [keyD x] else some []) = some (if b then [keyD x] else []) := by
    intro e X hX he
    subst hX
    cases e
    · simp at he; subst he; rfl
    · simp only [if_true] at he
      rw [Option.map_eq_some_iff] at he
      obtain ⟨v, hv, rfl⟩ := he
      rw [andD_t, hv, Option.map_some, Option.bind_some, truthD_b, Option.bind_some]
      cases (v == c) <;> rfl
  have hX : (Option.bind (dget ks (vs.map D.int) x) fun a => Option.map D.bool (cmpD .Eq a (.int c))) = (cget ks vs x).map fun v => D.bool (v == c) := by
    rw [cget_ok]
    cases cget ks vs x <;> rfl
  cases sd
  · exact (we_t0 ks (vs.map D.int) x.1 x.2 n c).trans (key _ _ hX h)
  · exact (we_t1 ks (vs.map D.int) x.1 x.2 n c).trans (key _ _ hX h)
theorem we_comp {ks : List Pr} {vs : List Int} {n c : Int} {sd : Bool} : ∀ {l o : List Pr}, wP ks vs c sd l = some o →
    evComp fW we3.1 [we3.2.1] (l.map keyD) (χW (.dct ks (vs.map D.int)) n c (sdI sd)) = some (o.map keyD)
  | [], o, h => by
    simp only [wP, Option.some.injEq] at h; subst h
    rw [we_g]; exact evComp_nil
  | x :: r, o, h => by
    simp only [wP, Option.bind_eq_some_iff, Option.map_eq_some_iff] at h
    obtain ⟨b, h1, t, h2, rfl⟩ := h
    have e2 := we_comp (n := n) h2
    have e1 := we_turn (n := n) h1
    rw [we_g] at e2 ⊢
    rw [List.map_cons, evComp_cons, e1, e2]
    cases b <;> rfl
end Mine
namespace Mine
open PySem PySem.Spec PySem.Calls PyProof.Rows PySem.W
set_option linter.unusedVariables false
set_option maxRecDepth 100000
set_option Elab.async false

theorem re_comp {w o : List D} {b : D} {n c : Int} {sd : Bool} : ∀ (l : List Pr),
    evComp fR re3.1 [re3.2.1] (l.map keyD) (χR w o b n c (sdI sd)) = some ((l.filter fun x => sdP sd x == n - 1).map keyD)
  | [] => by rw [re_g]; exact evComp_nil
  | x :: r => by
    have e2 := re_comp (w := w) (o := o) (b := b) (n := n) (c := c) (sd := sd) r
    have e1 : turnOut fR re3.1 [] re3.2.1.ifs (setA "cell" (keyD x) (χR w o b n c (sdI sd))) = if (sdP sd x == n - 1) = true then some [keyD x] else some [] := by
      cases sd
      · exact re_t0 w o b x.1 x.2 n c
      · exact re_t1 w o b x.1 x.2 n c
    rw [re_g] at e2 ⊢
    rw [List.map_cons, evComp_cons, e1, e2, List.filter_cons]
    cases (sdP sd x == n - 1) <;> rfl
noncomputable def insAll : List Pr → List Pr → Option (List Pr)
  | [], o => some o
  | x :: r, o => (insP x o).bind (insAll r)
theorem insAll_ok : ∀ {l o o' : List Pr}, insAll l o = some o' → acrIns gIns (l.map keyD) (o.map keyD) = some (o'.map keyD)
  | [], o, o', h => by simp only [insAll, Option.some.injEq] at h; subst h; rfl
  | x :: r, o, o', h => by
    simp only [insAll, Option.bind_eq_some_iff] at h
    obtain ⟨o1, h1, h2⟩ := h
    simp only [List.map_cons, acrIns]
    rw [insP_ok h1, Option.bind_some]
    exact insAll_ok h2
noncomputable def thereP (ks : List Pr) (vs : List Int) (c : Int) : List Pr → List Pr → List Pr → Option (List Pr × List Pr)
  | [], w, o => some (w, o)
  | th :: r, w, o => (cget ks vs th).bind fun v => if v == c then (hasP o th).bind fun b => if b then thereP ks vs c r w o else (insP th o).bind fun o' => if w.length ≤ 900 then thereP ks vs c r (w ++ [th]) o' else none
    else thereP ks vs c r w o
theorem t3_ok {ks : List Pr} {vs : List Int} {w o : List Pr} {cell : D} {th : Pr} {n c sd : Int} {v : Int} {b : Bool} (h1 : cget ks vs th = some v) (h2 : (v == c) = true → hasP o th = some b) :
    ev GA 30 n63 ((J63.wx, .lst (w.map keyD)) :: (J63.ox, .lst (o.map keyD)) :: (J63.thx, keyD th) :: (J63.cx, cell) :: φ63 (.dct ks (vs.map D.int)) n c sd) J63.t3 = some (.bool ((v == c) && !b)) := by
  refine (t3_63 ks (vs.map D.int) (w.map keyD) (o.map keyD) cell th.1 th.2 n c sd).trans ?_
  have e : dget ks (vs.map D.int) (th.1, th.2) = some (.int v) := by
    rw [show ((th.1, th.2) : Pr) = th from rfl, cget_ok, h1]; rfl
  have e2 : cmpD .Eq (.int v) (.int c) = some (v == c) := rfl
  rw [e, Option.bind_some, e2, Option.map_some, Option.bind_some, truthD_b, Option.bind_some]
  cases q : v == c
  · rw [andD_f]; rfl
  · rw [andD_t]
    have e3 : gH [.lst (o.map keyD), .tup [.int th.1, .int th.2]] = some (.bool b) := hasP_ok (h2 q)
    rw [e3, Option.bind_some, truthD_b, Option.map_some, Bool.true_and]
end Mine
namespace Mine
open PySem PySem.Spec PySem.Calls PyProof.Rows PySem.W
set_option linter.unusedVariables false
set_option maxRecDepth 100000
set_option Elab.async false

theorem solid_key (x : Pr) : solid (keyD x) = true := rfl
theorem thereP_ok {ks : List Pr} {vs : List Int} {n c sd : Int} {cell : D} : ∀ {l w o w' o' : List Pr}, thereP ks vs c l w o = some (w', o') →
    acrThere GA gIns 30 n63 J63 (φ63 (.dct ks (vs.map D.int)) n c sd) cell (l.map keyD) (w.map keyD) (o.map keyD) = some (w'.map keyD, o'.map keyD)
  | [], w, o, w', o', h => by
    simp only [thereP, Option.some.injEq, Prod.mk.injEq] at h
    obtain ⟨rfl, rfl⟩ := h
    rfl
  | th :: r, w, o, w', o', h => by
    simp only [thereP, Option.bind_eq_some_iff] at h
    obtain ⟨v, h1, h⟩ := h
    rw [List.map_cons, acrThere]
    by_cases q : (v == c) = true
    · rw [if_pos q] at h
      simp only [Option.bind_eq_some_iff] at h
      obtain ⟨b, h2, h⟩ := h
      rw [t3_ok (b := b) h1 fun _ => h2, Option.bind_some, truthD_b, Option.bind_some, q]
      cases b
      · simp only [Bool.false_eq_true, if_false, Option.bind_eq_some_iff] at h
        obtain ⟨o1, h3, h⟩ := h
        split at h
        · rename_i hw
          simp only [Bool.not_false, Bool.and_true, if_true]
          rw [insP_ok h3, Option.bind_some, solid_key, if_pos (by simpa using hw)]
          have := thereP_ok (n := n) (sd := sd) (cell := cell) h
          rw [List.map_append] at this
          exact this
        · cases h
      · simp only [if_true] at h
        simp only [Bool.not_true, Bool.and_false, Bool.false_eq_true, if_false]
        exact thereP_ok h
    · rw [if_neg q] at h
      have q' : (v == c) = false := by simpa using q
      rw [t3_ok (b := false) h1 (fun z => absurd z q), Option.bind_some, truthD_b, Option.bind_some, q']
      simp only [Bool.false_and, Bool.false_eq_true, if_false]
      exact thereP_ok h
noncomputable def loopP (ks : List Pr) (vs : List Int) (n c : Int) : Nat → Nat → List Pr → List Pr → Option (List Pr × List Pr)
  | m, i, w, o => match w[i]? with
    | none => some (w, o)
    | some cell => match m with
      | 0 => none
      | m + 1 => if decide (w.length ≤ 1000) && !decide ((w.length : Int) > n * n) && small n then (nearP n cell).bind fun l => if l.length ≤ 1000 then (thereP ks vs c l w o).bind fun st => loopP ks vs n c m (i + 1) st.1 st.2 else none else none
end Mine
namespace Mine
open PySem PySem.Spec PySem.Calls PyProof.Rows PySem.W
set_option linter.unusedVariables false
set_option maxRecDepth 100000
set_option Elab.async false

theorem t1_ok {bd cell : D} {w o : List D} {n c sd : Int} (h1 : w.length ≤ 1000) (h2 : small n = true) :
    ev GA 30 n63 ((J63.wx, .lst w) :: (J63.ox, .lst o) :: (J63.cx, cell) :: φ63 bd n c sd) J63.t1 = some (.bool (decide ((w.length : Int) > n * n))) := by
  rw [t1_63, if_pos (by simpa using h1), Option.bind_some, if_pos h2, Option.bind_some]
  rfl
theorem loopP_nil {ks : List Pr} {vs : List Int} {n c : Int} {m i : Nat} {w o : List Pr} {st : List Pr × List Pr} (q : w[i]? = none) (h : loopP ks vs n c m i w o = some st) : st = (w, o) := by
  unfold loopP at h
  rw [q] at h
  exact (Option.some.inj h).symm
theorem acrLoop_nil {φ : Ph} {m i : Nat} {w o : List Pr} (q : w[i]? = none) : acrLoop GA gIns 30 n63 J63 φ m i (w.map keyD) (o.map keyD) = some (w.map keyD, o.map keyD) := by
  unfold acrLoop
  rw [List.getElem?_map, q]; rfl
theorem loopP_ok {ks : List Pr} {vs : List Int} {n c sd : Int} : ∀ {m i : Nat} {w o w' o' : List Pr}, loopP ks vs n c m i w o = some (w', o') →
    acrLoop GA gIns 30 n63 J63 (φ63 (.dct ks (vs.map D.int)) n c sd) m i (w.map keyD) (o.map keyD) = some (w'.map keyD, o'.map keyD)
  | 0, i, w, o, w', o', h => by
    cases q : w[i]? with
    | none => cases loopP_nil q h; exact acrLoop_nil q
    | some cell => unfold loopP at h; rw [q] at h; exact no' h
  | m + 1, i, w, o, w', o', h => by
    cases q : w[i]? with
    | none => cases loopP_nil q h; exact acrLoop_nil q
    | some cell =>
      unfold loopP at h
      rw [q] at h
      replace h : (if decide (w.length ≤ 1000) && !decide ((w.length : Int) > n * n) && small n then (nearP n cell).bind fun l => if l.length ≤ 1000 then (thereP ks vs c l w o).bind fun st => loopP ks vs n c m (i + 1) st.1 st.2 else none else none) = some (w', o') := h
      split at h
      · rename_i hc
        rw [Bool.and_eq_true, Bool.and_eq_true] at hc
        obtain ⟨⟨c1, c2⟩, c3⟩ := hc
        obtain ⟨l, h1, h⟩ := Option.bind_eq_some_iff.mp h
        split at h
        · rename_i hl
          obtain ⟨⟨w1, o1⟩, h2, h3⟩ := Option.bind_eq_some_iff.mp h
          unfold acrLoop
          rw [List.getElem?_map, q, Option.map_some]
          dsimp only
          rw [t1_ok (by simpa using of_decide_eq_true c1) c3, Option.bind_some, truthD_b, Option.bind_some, List.length_map, if_neg (by simpa using c2)]
          rw [ne63, nearP_ok h1, Option.bind_some]
          have e1 : itemsD (.lst (l.map keyD)) = some (l.map keyD) := by simp [itemsD, hl]
          rw [e1, Option.bind_some, thereP_ok h2, Option.bind_some]
          exact loopP_ok h3
        · exact no' h
      · exact no' h
end Mine
namespace Mine
open PySem PySem.Spec PySem.Calls PyProof.Rows PySem.W
set_option linter.unusedVariables false
set_option maxRecDepth 100000
set_option Elab.async false

noncomputable def isPair (d : D) : Prop := ∃ a b : Int, d = .tup [.int a, .int b]
theorem pairs_py : ∀ (r : List D), (∀ d ∈ r, isPair d) → ∃ ps, toPyL r = some ps ∧ ps.length = r.length ∧ ∀ p ∈ ps, p.canLay0 = true ∧ p.depth ≤ 2
  | [], _ => ⟨[], rfl, rfl, by simp⟩
  | d :: r, h => by
    obtain ⟨ps, h1, h2, h3⟩ := pairs_py r fun d hd => h d (List.mem_cons_of_mem _ hd)
    obtain ⟨a, b, rfl⟩ := h d List.mem_cons_self
    refine ⟨.tuple [.int a, .int b] :: ps, by simp [toPyL, toPy, h1], by simp [h2], fun p hp => ?_⟩
    rcases List.mem_cons.mp hp with rfl | hp
    · exact ⟨rfl, by simp [PyData.depth, PyData.depthAll]⟩
    · exact h3 p hp

theorem eqNil {r : List D} (h : ∀ d ∈ r, isPair d) (hn : r ≠ []) : eqD (.lst r) (.lst []) = some false := by
  obtain ⟨ps, h1, h2, h3⟩ := pairs_py r h
  cases r with
  | nil => exact absurd rfl hn
  | cons d r =>
    cases ps with
    | nil => simp at h2
    | cons p ps =>
      have hd : ∀ (l : List PyData), (∀ p ∈ l, p.canLay0 = true ∧ p.depth ≤ 2) → PyData.canLay0 (.list l) = true ∧ (PyData.list l).depth ≤ 8 := by
        intro l hl
        have : PyData.canLayAll0 l = true ∧ PyData.depthAll l ≤ 2 := by
          induction l with
          | nil => exact ⟨rfl, by simp [PyData.depthAll]⟩
          | cons p l ih =>
            obtain ⟨a, b⟩ := ih fun p hp => hl p (List.mem_cons_of_mem _ hp)
            obtain ⟨c, d⟩ := hl p List.mem_cons_self
            exact ⟨by simp [PyData.canLayAll0, a, c], by simp [PyData.depthAll]; omega⟩
        exact ⟨by simpa [PyData.canLay0] using this.1, by simp [PyData.depth]; omega⟩
      obtain ⟨q1, q2⟩ := hd _ h3
      have e1 : toPy (.lst (d :: r)) = some (.list (p :: ps)) := by rw [toPy, h1]; rfl
      have e2 : toPy (.lst []) = some (.list []) := rfl
      unfold eqD
      rw [e1, e2]
      simp only [q1, q2, decide_true, Bool.and_true]
      rfl

theorem solidL_keys : ∀ l : List Pr, solidL (l.map keyD) = true
  | [] => rfl
  | x :: r => by rw [List.map_cons, solidL, solidL_keys r]; rfl
/-- the way across, told on pairs -/
noncomputable def pureA (ks : List Pr) (vs : List Int) (n c : Int) (sd : Bool) : Option Bool :=
  if decide (ks.length ≤ 1000) then (wP ks vs c sd ks).bind fun w0 => if decide (w0.length ≤ 1000) then (insAll w0 []).bind fun o0 => (loopP ks vs n c 12 0 w0 o0).bind fun st =>
    if decide (st.2.length ≤ 1000) then some (!(st.2.filter fun x => sdP sd x == n - 1).isEmpty) else none else none else none
end Mine
namespace Mine
open PySem PySem.Spec PySem.Calls PyProof.Rows PySem.W
set_option linter.unusedVariables false
set_option maxRecDepth 100000
set_option Elab.async false

theorem re_ok {w o : List Pr} {b : D} {n c : Int} {sd : Bool} (h : o.length ≤ 1000) :
    ev GA 30 n63 ((J63.wx, .lst (w.map keyD)) :: (J63.ox, .lst (o.map keyD)) :: φ63 b n c (sdI sd)) J63.re = some (.bool (!(o.filter fun x => sdP sd x == n - 1).isEmpty)) := by
  have hf : (o.filter fun x => sdP sd x == n - 1).length ≤ 1000 := Nat.le_trans (List.length_filter_le _ _) h
  rw [re_eq, if_pos (by simpa using h), Option.bind_some, re_comp, Option.bind_some, if_pos (by simpa using hf), Option.bind_some]
  cases q : o.filter fun x => sdP sd x == n - 1 with
  | nil => rfl
  | cons x r =>
    have e : eqD (.lst ((x :: r).map keyD)) (.lst []) = some false := eqNil (fun d hd => by
      rw [List.mem_map] at hd
      obtain ⟨y, _, rfl⟩ := hd
      exact ⟨y.1, y.2, rfl⟩) (by simp)
    show Option.map D.bool (Option.map (fun x => !x) (eqD (.lst ((x :: r).map keyD)) (.lst []))) = _
    rw [e]
    rfl
theorem pureA_ok0 {ks : List Pr} {vs : List Int} {n c : Int} {sd r : Bool} (h : pureA ks vs n c sd = some r)
    (hs : exS GA 30 30 n63 [("colours", .dct ks (vs.map D.int)), ("size", .int n), ("colour", .int c)] J63.s0 = some (φ63 (.dct ks (vs.map D.int)) n c (sdI sd), none))
    (hall : ((φ63 (.dct ks (vs.map D.int)) n c (sdI sd)).all (fun p => solid p.2) && (φ63 (.dct ks (vs.map D.int)) n c (sdI sd)).all (fun p => !(p.1 == J63.wx) && !(p.1 == J63.ox) && !(p.1 == J63.cx) && !(p.1 == J63.thx))) = true) :
    gA [.dct ks (vs.map D.int), .int n, .int c] = some (.bool r) := by
  unfold pureA at h
  split at h
  · rename_i hk
    simp only [decide_eq_true_eq] at hk
    simp only [Option.bind_eq_some_iff] at h
    obtain ⟨w0, h1, h⟩ := h
    split at h
    · rename_i hw
      simp only [decide_eq_true_eq] at hw
      simp only [Option.bind_eq_some_iff] at h
      obtain ⟨o0, h2, ⟨w1, o1⟩, h3, h⟩ := h
      split at h
      · rename_i ho
        simp only [decide_eq_true_eq] at ho
        cases h
        have ew : ev GA 30 n63 (φ63 (.dct ks (vs.map D.int)) n c (sdI sd)) J63.we = some (.lst (w0.map keyD)) := by
          rw [we_eq, if_pos (by simpa using hk), Option.bind_some, we_comp h1, Option.bind_some, if_pos (by simpa using hw)]
        show acrF GA gIns 30 n63 J63 ["colours", "size", "colour"] 12 [.dct ks (vs.map D.int), .int n, .int c] = _
        unfold acrF
        have hz : (["colours", "size", "colour"] : List Str).zip [D.dct ks (vs.map D.int), D.int n, D.int c] = [(("colours" : Str), D.dct ks (vs.map D.int)), ("size", D.int n), ("colour", D.int c)] := rfl
        rw [hz, hs, Option.bind_some]
        dsimp only
        rw [ew, Option.bind_some]
        dsimp only
        rw [Bool.and_eq_true] at hall
        rw [solidL_keys, hall.1, hall.2, if_pos (by simpa using hw)]
        have e2 : acrIns gIns (w0.map keyD) [] = some (o0.map keyD) := insAll_ok (o := []) h2
        rw [e2, Option.bind_some, solidL_keys, if_pos rfl, loopP_ok h3, Option.bind_some]
        exact re_ok ho
      · cases h
    · cases h
  · cases h
end Mine
namespace Mine
open PySem PySem.Spec PySem.Calls PyProof.Rows PySem.W
set_option linter.unusedVariables false
set_option maxRecDepth 100000
set_option Elab.async false

noncomputable def k9 : List Pr := [(0,0),(0,1),(0,2),(1,0),(1,1),(1,2),(2,0),(2,1),(2,2)]
noncomputable def k4 : List Pr := [(0,0),(0,1),(1,0),(1,1)]
noncomputable def k1 : List Pr := [(0,0)]
theorem bo3 (x0 x1 x2 x3 x4 x5 x6 x7 x8 : D) : gBo [.lst [x0, x1, x2, x3, x4, x5, x6, x7, x8], .int 3] = some (.dct k9 [x0, x1, x2, x3, x4, x5, x6, x7, x8]) := by kernel_rfl
theorem bo2 (x0 x1 x2 x3 : D) : gBo [.lst [x0, x1, x2, x3], .int 2] = some (.dct k4 [x0, x1, x2, x3]) := by kernel_rfl
theorem bo1 (x0 : D) : gBo [.lst [x0], .int 1] = some (.dct k1 [x0]) := by kernel_rfl
end Mine
namespace Mine
open PySem PySem.Spec PySem.Calls PyProof.Rows PySem.W
set_option linter.unusedVariables false
set_option maxRecDepth 100000
set_option Elab.async false

noncomputable abbrev φL (x z : Int) (fg bd : D) : Ph := [("size", .int z), ("number", .int x), ("figures", fg), ("board", bd)]
theorem eO_eq (x z : Int) (fg bd : D) : ev G1 30 n73 (φL x z fg bd) eO = gA [bd, .int z, .int 1] := by kernel_rfl
theorem eZ_eq (x z : Int) (fg bd : D) : ev G1 30 n73 (φL x z fg bd) eZ = gA [bd, .int z, .int 0] := by kernel_rfl
end Mine
namespace Mine
open PySem PySem.Spec PySem.Calls PyProof.Rows PySem.W
set_option linter.unusedVariables false
set_option maxRecDepth 100000
set_option Elab.async false

noncomputable def foB : Stmt → List Stmt
  | .For _ _ b _ _ => b
  | _ => []
noncomputable def lpS : Stmt := qB.getD 1 (.Pass default)
noncomputable def lpI : Stmt := (foB lpS).getD 0 (.Pass default)
end Mine
namespace Mine
open PySem PySem.Spec PySem.Calls PyProof.Rows PySem.W
set_option linter.unusedVariables false
set_option maxRecDepth 100000
set_option Elab.async false

noncomputable def asE : Stmt → Expr
  | .Assign _ e _ => e
  | _ => .Name "x" default
noncomputable def mrS : Stmt := (ifB lpI).getD 0 (.Pass default)
noncomputable def mrI : Stmt := (ifB lpI).getD 1 (.Pass default)
noncomputable def orD (c : Bool) (d : D) (X : Option D) : Option D := match BoolOp.Or, c with
  | .And, false => some d
  | .Or, true => some d
  | _, _ => X
end Mine
namespace Mine
open PySem PySem.Spec PySem.Calls PyProof.Rows PySem.W
set_option linter.unusedVariables false
set_option maxRecDepth 100000
set_option Elab.async false

/-- the law's oracles, any four -/
noncomputable def GV (fA fB fI fD : List D → Option D) : Fn := addG "_law_across" fA (addG "_law_board" fB (addG "_int2digits" fI (addG "_digits2int" fD Gx)))
theorem G1_GV : G1 = GV gA gBo gI gD := rfl
noncomputable def sliceD (a b : D) : Option D := match a, b with
  | .lst l, .int k => if decide (0 ≤ k) && small k && decide (l.length ≤ 1000) then some (.lst (l.take k.toNat)) else none
  | _, _ => none
noncomputable def z9 : List D := [.int 0, .int 0, .int 0, .int 0, .int 0, .int 0, .int 0, .int 0, .int 0]
noncomputable def a0 : Stmt := qA.getD 0 (.Pass default)
noncomputable def a1 : Stmt := qA.getD 1 (.Pass default)
noncomputable def a2 : Stmt := qA.getD 2 (.Pass default)
theorem qA_eq : qA = [a0, a1, a2] := by kernel_rfl
noncomputable abbrev φ0 (x z : Int) : Ph := [("size", .int z), ("number", .int x)]
noncomputable abbrev φF (x z : Int) (fg : D) : Ph := [("size", .int z), ("number", .int x), ("figures", fg)]
section
variable (fA fB fI fD : List D → Option D)
theorem a0_eq (x z : Int) : exS (GV fA fB fI fD) 30 30 n73 (φ0 x z) a0 = Option.map (fun d => ((φF x z d, none) : Out))
    (Option.bind (Option.bind (fI [.int x, .int 1]) fun a => binD .Add a (.lst z9)) fun a => Option.bind (if small z = true then some (.int (z * z)) else none) fun b => sliceD a b) := by kernel_rfl
theorem a1_eq (x z : Int) (fg : D) : exS (GV fA fB fI fD) 30 30 n73 (φF x z fg) a1 = Option.bind (Option.bind (fD [fg, .int 1]) fun a => Option.map D.bool (cmpD .NotEq a (.int x))) fun d => Option.bind (truthD d) fun c =>
    exB (exS (GV fA fB fI fD) 30 29 n73) (if c then ifB a1 else ifO a1) (φF x z fg) := by kernel_rfl
theorem a1_o : ifO a1 = [] := by kernel_rfl
theorem a2_eq (x z : Int) (fg : D) : exS (GV fA fB fI fD) 30 30 n73 (φF x z fg) a2 = Option.map (fun d => ((φL x z fg d, none) : Out)) (fB [fg, .int z]) := by kernel_rfl
end
end Mine
namespace Mine
open PySem PySem.Spec PySem.Calls PyProof.Rows PySem.W
set_option linter.unusedVariables false
set_option maxRecDepth 100000
set_option Elab.async false

noncomputable def t9 : List Pr := [(0,0),(1,0),(2,0),(0,1),(1,1),(2,1),(0,2),(1,2),(2,2)]
noncomputable def t4 : List Pr := [(0,0),(1,0),(0,1),(1,1)]
noncomputable def t1 : List Pr := [(0,0)]
/-- where the loop stands -/
noncomputable abbrev Cur := Option (Pr × Option D)
noncomputable def φS (x z : Int) (fg bd : D) (a b : Bool) : Cur → Ph
  | none => [("size", .int z), ("number", .int x), ("figures", fg), ("board", bd), ("noughts", .bool b), ("ones", .bool a)]
  | some (c, none) => [("size", .int z), ("number", .int x), ("figures", fg), ("board", bd), ("noughts", .bool b), ("ones", .bool a), ("cell", keyD c)]
  | some (c, some mo) => [("size", .int z), ("number", .int x), ("figures", fg), ("board", bd), ("noughts", .bool b), ("ones", .bool a), ("cell", keyD c), ("more", mo)]
noncomputable def q0 : Stmt := qB.getD 0 (.Pass default)
noncomputable def q2 : Stmt := qB.getD 2 (.Pass default)
noncomputable def q3 : Stmt := qB.getD 3 (.Pass default)
noncomputable def q4 : Stmt := qB.getD 4 (.Pass default)
noncomputable def q5 : Stmt := qB.getD 5 (.Pass default)
theorem qB_eq : qB = [q0, lpS, q2, q3, q4, q5] := by kernel_rfl
noncomputable def reE : Stmt → Expr
  | .Return (some e) _ => e
  | _ => .Name "x" default
section
variable (fA fB fI fD : List D → Option D)
noncomputable abbrev evV (φ : Ph) (e : Expr) : Option D := ev (GV fA fB fI fD) 30 n73 φ e
noncomputable abbrev exV (n : Nat) (φ : Ph) (s : Stmt) : Option Out := exS (GV fA fB fI fD) 30 n n73 φ s
theorem q0_t (x z : Int) (fg bd : D) (a b : Bool) : evV fA fB fI fD (φS x z fg bd a b none) (ifT q0) = some (.bool (a == b)) := by kernel_rfl
theorem q0_x (φ : Ph) : exV fA fB fI fD 30 φ q0 = Option.bind (evV fA fB fI fD φ (ifT q0)) fun d => Option.bind (truthD d) fun c => exB (exV fA fB fI fD 29) (if c then ifB q0 else ifO q0) φ := by kernel_rfl
theorem q0_o : ifO q0 = [] := by kernel_rfl
theorem lp_x (φ : Ph) : exV fA fB fI fD 30 φ lpS = Option.bind (φ.lookup ("board" : Str)) fun d => Option.bind (itemsD d) fun its => forD (exB (exV fA fB fI fD 29) (foB lpS)) "cell" its φ := by kernel_rfl
theorem lpB_eq : foB lpS = [lpI] := by kernel_rfl
theorem lpI_x (φ : Ph) : exV fA fB fI fD 29 φ lpI = Option.bind (evV fA fB fI fD φ (ifT lpI)) fun d => Option.bind (truthD d) fun c => exB (exV fA fB fI fD 28) (if c then ifB lpI else ifO lpI) φ := by kernel_rfl
theorem lpI_b : ifB lpI = [mrS, mrI] := by kernel_rfl
theorem lpI_o : ifO lpI = [] := by kernel_rfl
theorem lpI_t (x z : Int) (fg : D) (ks : List Pr) (vs : List D) (a b : Bool) (c : Pr) (mo : Option D) : evV fA fB fI fD (φS x z fg (.dct ks vs) a b (some (c, mo))) (ifT lpI) = Option.bind (dget ks vs (c.1, c.2)) fun v => Option.map D.bool (cmpD .Eq v (.int 0)) := by cases mo <;> kernel_rfl
theorem mrS_x (x z : Int) (fg bd : D) (a b : Bool) (c : Pr) (mo : Option D) : exV fA fB fI fD 28 (φS x z fg bd a b (some (c, mo))) mrS = Option.map (fun d => ((φS x z fg bd a b (some (c, some d)), none) : Out)) (evV fA fB fI fD (φS x z fg bd a b (some (c, mo))) (asE mrS)) := by cases mo <;> kernel_rfl
theorem mrI_x (φ : Ph) : exV fA fB fI fD 28 φ mrI = Option.bind (evV fA fB fI fD φ (ifT mrI)) fun d => Option.bind (truthD d) fun c => exB (exV fA fB fI fD 27) (if c then ifB mrI else ifO mrI) φ := by kernel_rfl
theorem mrI_o : ifO mrI = [] := by kernel_rfl
theorem mrI_t (x z : Int) (fg bd mo : D) (a b : Bool) (c : Pr) : evV fA fB fI fD (φS x z fg bd a b (some (c, some mo))) (ifT mrI) =
  Option.bind (andD a (.bool a) (Option.bind (fA [mo, .int z, .int 1]) fun d => Option.map (fun b => D.bool !b) (truthD d))) fun d => Option.bind (truthD d) fun t => orD t d
    (Option.bind (fA [mo, .int z, .int 0]) fun d => Option.bind (truthD d) fun t => andD t d (some (.bool !b))) := by kernel_rfl

theorem mr3_0 (x z : Int) (fg x0 x1 x2 x3 x4 x5 x6 x7 x8 : D) (a b : Bool) (mo : Option D) : evV fA fB fI fD (φS x z fg (.dct k9 [x0, x1, x2, x3, x4, x5, x6, x7, x8]) a b (some ((0, 0), mo))) (asE mrS) = some (.dct k9 [.int 1, x1, x2, x3, x4, x5, x6, x7, x8]) := by cases mo <;> kernel_rfl
theorem mr3_1 (x z : Int) (fg x0 x1 x2 x3 x4 x5 x6 x7 x8 : D) (a b : Bool) (mo : Option D) : evV fA fB fI fD (φS x z fg (.dct k9 [x0, x1, x2, x3, x4, x5, x6, x7, x8]) a b (some ((0, 1), mo))) (asE mrS) = some (.dct k9 [x0, .int 1, x2, x3, x4, x5, x6, x7, x8]) := by cases mo <;> kernel_rfl
theorem mr3_2 (x z : Int) (fg x0 x1 x2 x3 x4 x5 x6 x7 x8 : D) (a b : Bool) (mo : Option D) : evV fA fB fI fD (φS x z fg (.dct k9 [x0, x1, x2, x3, x4, x5, x6, x7, x8]) a b (some ((0, 2), mo))) (asE mrS) = some (.dct k9 [x0, x1, .int 1, x3, x4, x5, x6, x7, x8]) := by cases mo <;> kernel_rfl
theorem mr3_3 (x z : Int) (fg x0 x1 x2 x3 x4 x5 x6 x7 x8 : D) (a b : Bool) (mo : Option D) : evV fA fB fI fD (φS x z fg (.dct k9 [x0, x1, x2, x3, x4, x5, x6, x7, x8]) a b (some ((1, 0), mo))) (asE mrS) = some (.dct k9 [x0, x1, x2, .int 1, x4, x5, x6, x7, x8]) := by cases mo <;> kernel_rfl
theorem mr3_4 (x z : Int) (fg x0 x1 x2 x3 x4 x5 x6 x7 x8 : D) (a b : Bool) (mo : Option D) : evV fA fB fI fD (φS x z fg (.dct k9 [x0, x1, x2, x3, x4, x5, x6, x7, x8]) a b (some ((1, 1), mo))) (asE mrS) = some (.dct k9 [x0, x1, x2, x3, .int 1, x5, x6, x7, x8]) := by cases mo <;> kernel_rfl
theorem mr3_5 (x z : Int) (fg x0 x1 x2 x3 x4 x5 x6 x7 x8 : D) (a b : Bool) (mo : Option D) : evV fA fB fI fD (φS x z fg (.dct k9 [x0, x1, x2, x3, x4, x5, x6, x7, x8]) a b (some ((1, 2), mo))) (asE mrS) = some (.dct k9 [x0, x1, x2, x3, x4, .int 1, x6, x7, x8]) := by cases mo <;> kernel_rfl
theorem mr3_6 (x z : Int) (fg x0 x1 x2 x3 x4 x5 x6 x7 x8 : D) (a b : Bool) (mo : Option D) : evV fA fB fI fD (φS x z fg (.dct k9 [x0, x1, x2, x3, x4, x5, x6, x7, x8]) a b (some ((2, 0), mo))) (asE mrS) = some (.dct k9 [x0, x1, x2, x3, x4, x5, .int 1, x7, x8]) := by cases mo <;> kernel_rfl
theorem mr3_7 (x z : Int) (fg x0 x1 x2 x3 x4 x5 x6 x7 x8 : D) (a b : Bool) (mo : Option D) : evV fA fB fI fD (φS x z fg (.dct k9 [x0, x1, x2, x3, x4, x5, x6, x7, x8]) a b (some ((2, 1), mo))) (asE mrS) = some (.dct k9 [x0, x1, x2, x3, x4, x5, x6, .int 1, x8]) := by cases mo <;> kernel_rfl
theorem mr3_8 (x z : Int) (fg x0 x1 x2 x3 x4 x5 x6 x7 x8 : D) (a b : Bool) (mo : Option D) : evV fA fB fI fD (φS x z fg (.dct k9 [x0, x1, x2, x3, x4, x5, x6, x7, x8]) a b (some ((2, 2), mo))) (asE mrS) = some (.dct k9 [x0, x1, x2, x3, x4, x5, x6, x7, .int 1]) := by cases mo <;> kernel_rfl
theorem mr2_0 (x z : Int) (fg x0 x1 x2 x3 : D) (a b : Bool) (mo : Option D) : evV fA fB fI fD (φS x z fg (.dct k4 [x0, x1, x2, x3]) a b (some ((0, 0), mo))) (asE mrS) = some (.dct k4 [.int 1, x1, x2, x3]) := by cases mo <;> kernel_rfl
theorem mr2_1 (x z : Int) (fg x0 x1 x2 x3 : D) (a b : Bool) (mo : Option D) : evV fA fB fI fD (φS x z fg (.dct k4 [x0, x1, x2, x3]) a b (some ((0, 1), mo))) (asE mrS) = some (.dct k4 [x0, .int 1, x2, x3]) := by cases mo <;> kernel_rfl
theorem mr2_2 (x z : Int) (fg x0 x1 x2 x3 : D) (a b : Bool) (mo : Option D) : evV fA fB fI fD (φS x z fg (.dct k4 [x0, x1, x2, x3]) a b (some ((1, 0), mo))) (asE mrS) = some (.dct k4 [x0, x1, .int 1, x3]) := by cases mo <;> kernel_rfl
theorem mr2_3 (x z : Int) (fg x0 x1 x2 x3 : D) (a b : Bool) (mo : Option D) : evV fA fB fI fD (φS x z fg (.dct k4 [x0, x1, x2, x3]) a b (some ((1, 1), mo))) (asE mrS) = some (.dct k4 [x0, x1, x2, .int 1]) := by cases mo <;> kernel_rfl
theorem mr1_0 (x z : Int) (fg x0 : D) (a b : Bool) (mo : Option D) : evV fA fB fI fD (φS x z fg (.dct k1 [x0]) a b (some ((0, 0), mo))) (asE mrS) = some (.dct k1 [.int 1]) := by cases mo <;> kernel_rfl
noncomputable def φT (x z : Int) (fg bd : D) (a b : Bool) (cu : Cur) (t : D) : Ph := φS x z fg bd a b cu ++ ([("turned", t)] : Ph)
noncomputable def φU (x z : Int) (fg bd : D) (a b : Bool) (cu : Cur) (t u : D) : Ph := φS x z fg bd a b cu ++ ([("turned", t), ("full", u)] : Ph)
theorem q2_x (x z : Int) (fg bd : D) (a b : Bool) (c : Pr) (mo : Option D) : exV fA fB fI fD 30 (φS x z fg bd a b (some (c, mo))) q2 = Option.map (fun d => ((φT x z fg bd a b (some (c, mo)) d, none) : Out)) (evV fA fB fI fD (φS x z fg bd a b (some (c, mo))) (asE q2)) := by cases mo <;> kernel_rfl

theorem tu3 (x z : Int) (fg : D) (x0 x1 x2 x3 x4 x5 x6 x7 x8 : Int) (a b : Bool) (c : Pr) (mo : Option D) : evV fA fB fI fD (φS x z fg (.dct k9 [.int x0, .int x1, .int x2, .int x3, .int x4, .int x5, .int x6, .int x7, .int x8]) a b (some (c, mo))) (asE q2) = some (.dct t9 [.int (1 - x0), .int (1 - x1), .int (1 - x2), .int (1 - x3), .int (1 - x4), .int (1 - x5), .int (1 - x6), .int (1 - x7), .int (1 - x8)]) := by cases mo <;> kernel_rfl
theorem tu2 (x z : Int) (fg : D) (x0 x1 x2 x3 : Int) (a b : Bool) (c : Pr) (mo : Option D) : evV fA fB fI fD (φS x z fg (.dct k4 [.int x0, .int x1, .int x2, .int x3]) a b (some (c, mo))) (asE q2) = some (.dct t4 [.int (1 - x0), .int (1 - x1), .int (1 - x2), .int (1 - x3)]) := by cases mo <;> kernel_rfl
theorem tu1 (x z : Int) (fg : D) (x0 : Int) (a b : Bool) (c : Pr) (mo : Option D) : evV fA fB fI fD (φS x z fg (.dct k1 [.int x0]) a b (some (c, mo))) (asE q2) = some (.dct t1 [.int (1 - x0)]) := by cases mo <;> kernel_rfl
theorem q3_x (φ : Ph) : exV fA fB fI fD 30 φ q3 = Option.bind (evV fA fB fI fD φ (ifT q3)) fun d => Option.bind (truthD d) fun c => exB (exV fA fB fI fD 29) (if c then ifB q3 else ifO q3) φ := by kernel_rfl
theorem q3_o : ifO q3 = [] := by kernel_rfl
theorem q3_t (x z : Int) (fg bd t : D) (a b : Bool) (c : Pr) (mo : Option D) : evV fA fB fI fD (φT x z fg bd a b (some (c, mo)) t) (ifT q3) =
  Option.bind (Option.bind (fA [t, .int z, .int 1]) fun d => Option.map D.bool (cmpD .NotEq d (.bool b))) fun d => Option.bind (truthD d) fun t' => orD t' d
    (Option.bind (fA [t, .int z, .int 0]) fun d => Option.map D.bool (cmpD .NotEq d (.bool a))) := by cases mo <;> kernel_rfl
theorem q4_x (x z : Int) (fg bd t : D) (a b : Bool) (c : Pr) (mo : Option D) : exV fA fB fI fD 30 (φT x z fg bd a b (some (c, mo)) t) q4 = Option.map (fun d => ((φU x z fg bd a b (some (c, mo)) t d, none) : Out)) (evV fA fB fI fD (φT x z fg bd a b (some (c, mo)) t) (asE q4)) := by cases mo <;> kernel_rfl

theorem fu3 (x : Int) (fg bd t : D) (a b : Bool) (c : Pr) (mo : Option D) : evV fA fB fI fD (φT x 3 fg bd a b (some (c, mo)) t) (asE q4) = fB [.lst [.int 1, .int 1, .int 1, .int 1, .int 1, .int 1, .int 1, .int 1, .int 1], .int 3] := by cases mo <;> kernel_rfl
theorem fu2 (x : Int) (fg bd t : D) (a b : Bool) (c : Pr) (mo : Option D) : evV fA fB fI fD (φT x 2 fg bd a b (some (c, mo)) t) (asE q4) = fB [.lst [.int 1, .int 1, .int 1, .int 1], .int 2] := by cases mo <;> kernel_rfl
theorem fu1 (x : Int) (fg bd t : D) (a b : Bool) (c : Pr) (mo : Option D) : evV fA fB fI fD (φT x 1 fg bd a b (some (c, mo)) t) (asE q4) = fB [.lst [.int 1], .int 1] := by cases mo <;> kernel_rfl
theorem q5_x (φ : Ph) : exV fA fB fI fD 30 φ q5 = Option.map (fun d => ((φ, some d) : Out)) (evV fA fB fI fD φ (reE q5)) := by kernel_rfl
theorem q5_t (x z : Int) (fg bd t u : D) (a b : Bool) (c : Pr) (mo : Option D) : evV fA fB fI fD (φU x z fg bd a b (some (c, mo)) t u) (reE q5) =
  Option.bind (fA [u, .int z, .int 1]) fun d => Option.bind (truthD d) fun t' => andD t' d (Option.bind (fA [u, .int z, .int 0]) fun d => Option.map (fun b => D.bool !b) (truthD d)) := by cases mo <;> kernel_rfl
end
end Mine
namespace Mine
open PySem PySem.Spec PySem.Calls PyProof.Rows PySem.W
set_option linter.unusedVariables false
set_option maxRecDepth 100000
set_option Elab.async false

noncomputable abbrev scI : Sc := J21.scope.names
noncomputable abbrev psI : List Str := ["x", "L", "R"]
noncomputable abbrev φcI (a : D) : Ph := keepFree scI ((["a", "n"] : List Str).zip [a, .int 1])
noncomputable abbrev φi0 (x L R : D) : Ph := [("x", x), ("L", L), ("R", R), ("n", .int 1)]
noncomputable abbrev φi1 (x L R mid : D) : Ph := [("x", x), ("L", L), ("R", R), ("n", .int 1), ("mid", mid)]
noncomputable abbrev φi2 (x L R mid sh : D) : Ph := [("x", x), ("L", L), ("R", R), ("n", .int 1), ("mid", mid), ("shift", sh)]
noncomputable abbrev φi3 (x L R mid sh up : D) : Ph := [("x", x), ("L", L), ("R", R), ("n", .int 1), ("mid", mid), ("shift", sh), ("upper", up)]
noncomputable abbrev φi4 (x L R mid sh up lo : D) : Ph := [("x", x), ("L", L), ("R", R), ("n", .int 1), ("mid", mid), ("shift", sh), ("upper", up), ("lower", lo)]
noncomputable def pI (i : Nat) : Stmt := J21.I.pre.getD i (.Pass default)
theorem pI_eq : J21.I.pre = [pI 0, pI 1, pI 2, pI 3] := by kernel_rfl
theorem φI_eq (a x L R : D) : psI.zip [x, L, R] ++ φcI a = φi0 x L R := by kernel_rfl
theorem tI_eq (x L R : D) : ev Gb 30 scI (φi0 x L R) J21.I.t = Option.bind (binD .Add L (.int 1)) fun a => Option.map D.bool (cmpD .Eq a R) := by kernel_rfl
theorem xI_eq (x L R : D) : ev Gb 30 scI (φi0 x L R) (.Name J21.I.xx J21.I.xp) = some x := by kernel_rfl
theorem lI_eq (x L R : D) : ev Gb 30 scI (φi0 x L R) J21.I.li = some L := by kernel_rfl
theorem pI0 (x L R : D) : exS Gb 30 30 scI (φi0 x L R) (pI 0) = Option.map (fun d => ((φi1 x L R d, none) : Out)) (Option.bind (binD .Add L R) fun s => binD .RShift s (.int 1)) := by kernel_rfl
theorem pI1 (x L R mid : D) : exS Gb 30 30 scI (φi1 x L R mid) (pI 1) = Option.map (fun d => ((φi2 x L R mid d, none) : Out)) (Option.bind (binD .Sub mid L) fun s => binD .Mult s (.int 1)) := by kernel_rfl
theorem pI2 (x L R mid sh : D) : exS Gb 30 30 scI (φi2 x L R mid sh) (pI 2) = Option.map (fun d => ((φi3 x L R mid sh d, none) : Out)) (binD .RShift x sh) := by kernel_rfl
theorem pI3 (x L R mid sh up : D) : exS Gb 30 30 scI (φi3 x L R mid sh up) (pI 3) = Option.map (fun d => ((φi4 x L R mid sh up d, none) : Out)) (Option.bind (binD .LShift up sh) fun s => binD .BitXor x s) := by kernel_rfl
theorem a1I (x L R mid sh up lo : D) : evs (ev Gb 30 scI (φi4 x L R mid sh up lo)) J21.I.a1 = some [lo, L, mid] := by kernel_rfl
theorem a2I (x L R mid sh up lo : D) : evs (ev Gb 30 scI (φi4 x L R mid sh up lo)) J21.I.a2 = some [up, mid, R] := by kernel_rfl

noncomputable def putD (L x : D) (l : List D) : Option (List D) := match L with
  | .int j => if decide (0 ≤ j) && decide (j < l.length) && decide (j < 1000000) then some (l.set j.toNat x) else none
  | _ => none
noncomputable def digQ : Nat → D → D → D → List D → Option (List D)
  | 0, _, _, _, _ => none
  | m + 1, x, L, R, l => (binD .Add L (.int 1)).bind fun a => (cmpD .Eq a R).bind fun b => if b then putD L x l
    else (binD .Add L R).bind fun s => (binD .RShift s (.int 1)).bind fun mid => (binD .Sub mid L).bind fun w => (binD .Mult w (.int 1)).bind fun sh =>
      (binD .RShift x sh).bind fun up => (binD .LShift up sh).bind fun us => (binD .BitXor x us).bind fun lo => (digQ m lo L mid l).bind (digQ m up mid R)
theorem bindTo {α β : Type} {x : Option α} {f g : α → Option β} {b : β} (hf : ∀ a, f a = some b → g a = some b) (h : x.bind f = some b) : x.bind g = some b := by
  obtain ⟨a, h1, h2⟩ := Option.bind_eq_some_iff.mp h
  rw [h1]; exact hf a h2
theorem exB4 {f : Ph → Stmt → Option Out} {s0 s1 s2 s3 : Stmt} {p0 p1 p2 p3 p4 : Ph} (h0 : f p0 s0 = some (p1, none)) (h1 : f p1 s1 = some (p2, none)) (h2 : f p2 s2 = some (p3, none)) (h3 : f p3 s3 = some (p4, none)) : exB f [s0, s1, s2, s3] p0 = some (p4, none) := by
  simp only [exB, h0, h1, h2, h3, Option.bind_some]
theorem preI {x L R s mid w sh up us lo : D} (e1 : binD .Add L R = some s) (e2 : binD .RShift s (.int 1) = some mid) (e3 : binD .Sub mid L = some w) (e4 : binD .Mult w (.int 1) = some sh) (e5 : binD .RShift x sh = some up) (e6 : binD .LShift up sh = some us) (e7 : binD .BitXor x us = some lo) :
    exB (exS Gb 30 30 scI) J21.I.pre (φi0 x L R) = some (φi4 x L R mid sh up lo, none) := by
  rw [pI_eq]
  exact exB4 (by rw [pI0, e1, Option.bind_some, e2]; rfl) (by rw [pI1, e3, Option.bind_some, e4]; rfl) (by rw [pI2, e5]; rfl) (by rw [pI3, e6, Option.bind_some, e7]; rfl)
theorem dig_end {a x L R e : D} {m : Nat} {l l' : List D} (h1 : binD .Add L (.int 1) = some e) (h2 : cmpD .Eq e R = some true) (h : putD L x l = some l') : dig Gb 30 scI psI (φcI a) J21.I (m + 1) [x, L, R] l = some l' := by
  unfold dig
  rw [φI_eq, tI_eq, h1, Option.bind_some, h2, Option.map_some, Option.bind_some, truthD_b, Option.bind_some, if_pos rfl, xI_eq, Option.bind_some, lI_eq, Option.bind_some]
  exact h
theorem dig_step {a x L R e mid sh up lo : D} {m : Nat} {l l1 l' : List D} (h1 : binD .Add L (.int 1) = some e) (h2 : cmpD .Eq e R = some false) (p : exB (exS Gb 30 30 scI) J21.I.pre (φi0 x L R) = some (φi4 x L R mid sh up lo, none))
    (e8 : dig Gb 30 scI psI (φcI a) J21.I m [lo, L, mid] l = some l1) (e9 : dig Gb 30 scI psI (φcI a) J21.I m [up, mid, R] l1 = some l') : dig Gb 30 scI psI (φcI a) J21.I (m + 1) [x, L, R] l = some l' := by
  unfold dig
  rw [φI_eq, tI_eq, h1, Option.bind_some, h2, Option.map_some, Option.bind_some, truthD_b, Option.bind_some, if_neg Bool.false_ne_true, p, Option.bind_some]
  dsimp only
  rw [a1I, Option.bind_some, a2I, Option.bind_some, e8, Option.bind_some, e9]
theorem dig_ok (a : D) : ∀ (m : Nat) (x L R : D) (l l' : List D), digQ m x L R l = some l' → dig Gb 30 scI psI (φcI a) J21.I m [x, L, R] l = some l'
  | 0, _, _, _, _, _, h => no' h
  | m + 1, x, L, R, l, l', h => by
    obtain ⟨e, h1, h⟩ := Option.bind_eq_some_iff.mp (show ((binD .Add L (.int 1)).bind fun a => (cmpD .Eq a R).bind fun b => if b then putD L x l
    else (binD .Add L R).bind fun s => (binD .RShift s (.int 1)).bind fun mid => (binD .Sub mid L).bind fun w => (binD .Mult w (.int 1)).bind fun sh =>
      (binD .RShift x sh).bind fun up => (binD .LShift up sh).bind fun us => (binD .BitXor x us).bind fun lo => (digQ m lo L mid l).bind (digQ m up mid R)) = some l' from h)
    obtain ⟨b, h2, h⟩ := Option.bind_eq_some_iff.mp h
    induction b using Bool.casesOn with
    | false =>
      rw [if_neg Bool.false_ne_true] at h
      obtain ⟨s, e1, h⟩ := Option.bind_eq_some_iff.mp h
      obtain ⟨mid, e2, h⟩ := Option.bind_eq_some_iff.mp h
      obtain ⟨w, e3, h⟩ := Option.bind_eq_some_iff.mp h
      obtain ⟨sh, e4, h⟩ := Option.bind_eq_some_iff.mp h
      obtain ⟨up, e5, h⟩ := Option.bind_eq_some_iff.mp h
      obtain ⟨us, e6, h⟩ := Option.bind_eq_some_iff.mp h
      obtain ⟨lo, e7, h⟩ := Option.bind_eq_some_iff.mp h
      obtain ⟨l1, e8, e9⟩ := Option.bind_eq_some_iff.mp h
      exact dig_step h1 h2 (preI e1 e2 e3 e4 e5 e6 e7) (dig_ok a m _ _ _ _ _ e8) (dig_ok a m _ _ _ _ _ e9)
    | true =>
      rw [if_pos rfl] at h
      exact dig_end h1 h2 h
noncomputable def args3 (F : D → D → D → Option D) : List D → Option D
  | [a, b, c] => F a b c
  | _ => none
theorem args3_inv {F : D → D → D → Option D} {ds : List D} {r : D} (h : args3 F ds = some r) : ∃ a b c, ds = [a, b, c] ∧ F a b c = some r := on3_inv (F := F) h
noncomputable def args2 (F : D → D → Option D) : List D → Option D
  | [a, b] => F a b
  | _ => none
theorem args2_inv {F : D → D → Option D} {ds : List D} {r : D} (h : args2 F ds = some r) : ∃ a b, ds = [a, b] ∧ F a b = some r := on2_inv (F := F) h
theorem if2 {α : Type} {c : Prop} [Decidable c] {x : Option α} {y : α} (h : (if c then x else none) = some y) : c ∧ x = some y := by
  by_cases q : c
  · rw [if_pos q] at h; exact ⟨q, h⟩
  · rw [if_neg q] at h; exact no' h
/-- the figures, told by digQ -/
noncomputable def gIq (a : D) : Option D :=
  (ev Gb 30 (sNames f21) ((["a", "n"] : List Str).zip [a, .int 1]) J21.e0).bind fun d0 => match d0 with
    | .lst l0 => if l0.all scalar then
        (ev Gb 30 (sNames f21) ((["a", "n"] : List Str).zip [a, .int 1]) J21.t).bind fun c => (truthD c).bind fun b => if b then
          (evs (ev Gb 30 (sNames f21) ((J21.dx, .lst l0) :: (["a", "n"] : List Str).zip [a, .int 1])) J21.args).bind fun d1 => if solidL d1 then args3 (fun x L R => (digQ 8 x L R l0).map .lst) d1 else none
        else some (.lst l0)
      else none
    | _ => none
theorem gIq_ok {a : Int} {r : D} (h : gIq (.int a) = some r) : gI [.int a, .int 1] = some r := by
  show i2d Gb 30 (sNames f21) ["a", "n"] ["x", "L", "R"] J21 8 [.int a, .int 1] = some r
  refine bindTo (fun d0 h => ?_) h
  induction d0 using D.casesOn with
  | lst l0 =>
    replace h := if2 h
    refine (if_pos h.1).trans (bindTo (fun c h => bindTo (fun b h => ?_) h) h.2)
    induction b using Bool.casesOn with
    | false => exact h
    | true =>
      refine bindTo (fun d1 h => ?_) (show ((evs (ev Gb 30 (sNames f21) ((J21.dx, .lst l0) :: (["a", "n"] : List Str).zip [.int a, .int 1])) J21.args).bind fun d1 => if solidL d1 then args3 (fun x L R => (digQ 8 x L R l0).map .lst) d1 else none) = some r from h)
      replace h := if2 h
      refine (if_pos h.1).trans ?_
      obtain ⟨x, L, R, rfl, h2⟩ := args3_inv h.2
      obtain ⟨l', h5, rfl⟩ := Option.map_eq_some_iff.mp h2
      exact Option.map_eq_some_iff.mpr ⟨l', dig_ok (.int a) 8 _ _ _ _ _ h5, rfl⟩
  | _ => exact no' h
end Mine
namespace Mine
open PySem PySem.Spec PySem.Calls PyProof.Rows PySem.W
set_option linter.unusedVariables false
set_option maxRecDepth 100000
set_option Elab.async false

noncomputable abbrev scJ : Sc := J28.scope.names
noncomputable abbrev psJ : List Str := ["L", "R"]
noncomputable abbrev φcJ (l : List D) : Ph := keepFree scJ ((["digits", "n"] : List Str).zip [.lst l, .int 1])
noncomputable abbrev φj0 (l : List D) (L R : D) : Ph := [("L", L), ("R", R), ("digits", .lst l), ("n", .int 1)]
noncomputable abbrev φj1 (l : List D) (L R mid : D) : Ph := [("L", L), ("R", R), ("digits", .lst l), ("n", .int 1), ("mid", mid)]
noncomputable abbrev φj2 (l : List D) (L R mid sh : D) : Ph := [("L", L), ("R", R), ("digits", .lst l), ("n", .int 1), ("mid", mid), ("shift", sh)]
noncomputable def pJ (i : Nat) : Stmt := J28.I.pre.getD i (.Pass default)
theorem pJ_eq : J28.I.pre = [pJ 0, pJ 1] := by kernel_rfl
theorem φJ_eq (l : List D) (L R : D) : psJ.zip [L, R] ++ φcJ l = φj0 l L R := by kernel_rfl
theorem tJ_eq (l : List D) (L R : D) : ev Gb 30 scJ (φj0 l L R) J28.I.t = Option.bind (binD .Add L (.int 1)) fun a => Option.map D.bool (cmpD .Eq a R) := by kernel_rfl
theorem rJ_eq (l : List D) (L : Int) (R : D) : ev Gb 30 scJ (φj0 l (.int L) R) J28.I.rt = idxD l L := by kernel_rfl
theorem pJ0 (l : List D) (L R : D) : exS Gb 30 30 scJ (φj0 l L R) (pJ 0) = Option.map (fun d => ((φj1 l L R d, none) : Out)) (Option.bind (binD .Add L R) fun s => binD .RShift s (.int 1)) := by kernel_rfl
theorem pJ1 (l : List D) (L R mid : D) : exS Gb 30 30 scJ (φj1 l L R mid) (pJ 1) = Option.map (fun d => ((φj2 l L R mid d, none) : Out)) (Option.bind (binD .Sub mid L) fun s => binD .Mult s (.int 1)) := by kernel_rfl
theorem a1J (l : List D) (L R mid sh : D) : evs (ev Gb 30 scJ (φj2 l L R mid sh)) J28.I.a1 = some [mid, R] := by kernel_rfl
theorem a2J (l : List D) (L R mid sh : D) : evs (ev Gb 30 scJ (φj2 l L R mid sh)) J28.I.a2 = some [L, mid] := by kernel_rfl
theorem shJ (l : List D) (L R mid sh : D) : ev Gb 30 scJ (φj2 l L R mid sh) J28.I.sh = some sh := by kernel_rfl
theorem o1J : J28.I.o1 = .LShift := by kernel_rfl
theorem o2J : J28.I.o2 = .Add := by kernel_rfl

noncomputable def d2Q (l : List D) : Nat → D → D → Option D
  | 0, _, _ => none
  | m + 1, L, R => (binD .Add L (.int 1)).bind fun a => (cmpD .Eq a R).bind fun b => if b then (match L with
      | .int j => idxD l j
      | _ => none)
    else (binD .Add L R).bind fun s => (binD .RShift s (.int 1)).bind fun mid => (binD .Sub mid L).bind fun w => (binD .Mult w (.int 1)).bind fun sh =>
      (d2Q l m mid R).bind fun x => (binD .LShift x sh).bind fun y => (d2Q l m L mid).bind fun u => binD .Add y u
theorem exB2 {f : Ph → Stmt → Option Out} {s0 s1 : Stmt} {p0 p1 p2 : Ph} (h0 : f p0 s0 = some (p1, none)) (h1 : f p1 s1 = some (p2, none)) : exB f [s0, s1] p0 = some (p2, none) := by
  simp only [exB, h0, h1, Option.bind_some]
theorem preJ {l : List D} {L R s mid w sh : D} (e1 : binD .Add L R = some s) (e2 : binD .RShift s (.int 1) = some mid) (e3 : binD .Sub mid L = some w) (e4 : binD .Mult w (.int 1) = some sh) :
    exB (exS Gb 30 30 scJ) J28.I.pre (φj0 l L R) = some (φj2 l L R mid sh, none) := by
  rw [pJ_eq]
  exact exB2 (by rw [pJ0, e1, Option.bind_some, e2]; rfl) (by rw [pJ1, e3, Option.bind_some, e4]; rfl)
theorem d2_end {l : List D} {L R e r : D} {m : Nat} (h1 : binD .Add L (.int 1) = some e) (h2 : cmpD .Eq e R = some true) (h : ev Gb 30 scJ (φj0 l L R) J28.I.rt = some r) : d2 Gb 30 scJ psJ (φcJ l) J28.I (m + 1) [L, R] = some r := by
  unfold d2
  rw [φJ_eq, tJ_eq, h1, Option.bind_some, h2, Option.map_some, Option.bind_some, truthD_b, Option.bind_some, if_pos rfl]
  exact h
theorem d2_step {l : List D} {L R e mid sh x y u r : D} {m : Nat} (h1 : binD .Add L (.int 1) = some e) (h2 : cmpD .Eq e R = some false) (p : exB (exS Gb 30 30 scJ) J28.I.pre (φj0 l L R) = some (φj2 l L R mid sh, none))
    (e5 : d2 Gb 30 scJ psJ (φcJ l) J28.I m [mid, R] = some x) (e6 : binD .LShift x sh = some y) (e7 : d2 Gb 30 scJ psJ (φcJ l) J28.I m [L, mid] = some u) (e8 : binD .Add y u = some r) : d2 Gb 30 scJ psJ (φcJ l) J28.I (m + 1) [L, R] = some r := by
  unfold d2
  rw [φJ_eq, tJ_eq, h1, Option.bind_some, h2, Option.map_some, Option.bind_some, truthD_b, Option.bind_some, if_neg Bool.false_ne_true, p, Option.bind_some]
  dsimp only
  rw [a1J, Option.bind_some, e5, Option.bind_some, shJ, Option.bind_some, o1J, e6, Option.bind_some, a2J, Option.bind_some, e7, Option.bind_some, o2J, e8]
theorem d2Q_ok (l : List D) : ∀ (m : Nat) (L R : D) (r : D), d2Q l m L R = some r → d2 Gb 30 scJ psJ (φcJ l) J28.I m [L, R] = some r
  | 0, _, _, _, h => no' h
  | m + 1, L, R, r, h => by
    obtain ⟨e, h1, h⟩ := Option.bind_eq_some_iff.mp (show ((binD .Add L (.int 1)).bind fun a => (cmpD .Eq a R).bind fun b => if b then (match L with
      | .int j => idxD l j
      | _ => none)
    else (binD .Add L R).bind fun s => (binD .RShift s (.int 1)).bind fun mid => (binD .Sub mid L).bind fun w => (binD .Mult w (.int 1)).bind fun sh =>
      (d2Q l m mid R).bind fun x => (binD .LShift x sh).bind fun y => (d2Q l m L mid).bind fun u => binD .Add y u) = some r from h)
    obtain ⟨b, h2, h⟩ := Option.bind_eq_some_iff.mp h
    induction b using Bool.casesOn with
    | false =>
      rw [if_neg Bool.false_ne_true] at h
      obtain ⟨s, e1, h⟩ := Option.bind_eq_some_iff.mp h
      obtain ⟨mid, e2, h⟩ := Option.bind_eq_some_iff.mp h
      obtain ⟨w, e3, h⟩ := Option.bind_eq_some_iff.mp h
      obtain ⟨sh, e4, h⟩ := Option.bind_eq_some_iff.mp h
      obtain ⟨x, e5, h⟩ := Option.bind_eq_some_iff.mp h
      obtain ⟨y, e6, h⟩ := Option.bind_eq_some_iff.mp h
      obtain ⟨u, e7, e8⟩ := Option.bind_eq_some_iff.mp h
      exact d2_step h1 h2 (preJ e1 e2 e3 e4) (d2Q_ok l m _ _ _ e5) e6 (d2Q_ok l m _ _ _ e7) e8
    | true =>
      rw [if_pos rfl] at h
      refine d2_end h1 h2 ?_
      induction L using D.casesOn with
      | int j => exact (rJ_eq l j R).trans h
      | _ => exact no' h
/-- the number, told by d2Q -/
noncomputable def gDq (l : List D) : Option D :=
  (ev Gb 30 (sNames f28) ((["digits", "n"] : List Str).zip [.lst l, .int 1]) J28.t).bind fun c => (truthD c).bind fun b => if b then
      (evs (ev Gb 30 (sNames f28) ((["digits", "n"] : List Str).zip [.lst l, .int 1])) J28.args).bind fun d1 => args2 (fun L R => d2Q l 8 L R) d1
    else ev Gb 30 (sNames f28) ((["digits", "n"] : List Str).zip [.lst l, .int 1]) J28.z
theorem gDq_ok {l : List D} {r : D} (h : gDq l = some r) : gD [.lst l, .int 1] = some r := by
  show d2i Gb 30 (sNames f28) ["digits", "n"] ["L", "R"] J28 8 [.lst l, .int 1] = some r
  refine bindTo (fun c h => bindTo (fun b h => ?_) h) h
  induction b using Bool.casesOn with
  | false => exact h
  | true =>
    refine bindTo (fun d1 h => ?_) (show ((evs (ev Gb 30 (sNames f28) ((["digits", "n"] : List Str).zip [.lst l, .int 1])) J28.args).bind fun d1 => args2 (fun L R => d2Q l 8 L R) d1) = some r from h)
    obtain ⟨L, R, rfl, h2⟩ := args2_inv h
    exact d2Q_ok l 8 _ _ _ h2

noncomputable def bI (b : Bool) : Int := if b then 1 else 0
noncomputable def nOf : List Bool → Nat
  | [] => 0
  | b :: r => (if b then 1 else 0) + 2 * nOf r
noncomputable def bitsZ : Nat → Nat → List Int
  | _, 0 => []
  | m, k + 1 => ((m % 2 : Nat) : Int) :: bitsZ (m / 2) k
end Mine
namespace Mine
open PySem PySem.Spec PySem.Calls PyProof.Rows PySem.W
set_option linter.unusedVariables false
set_option maxRecDepth 100000
set_option Elab.async false

theorem solidL_ints : ∀ vs : List Int, solidL (vs.map D.int) = true
  | [] => rfl
  | x :: r => by rw [List.map_cons, solidL, solidL_ints r]; rfl
theorem hall63 (ks : List Pr) (vs : List Int) (n c sd : Int) : ((φ63 (.dct ks (vs.map D.int)) n c sd).all (fun p => solid p.2) && (φ63 (.dct ks (vs.map D.int)) n c sd).all (fun p => !(p.1 == J63.wx) && !(p.1 == J63.ox) && !(p.1 == J63.cx) && !(p.1 == J63.thx))) = true := by
  rw [Bool.and_eq_true]
  refine ⟨List.all_eq_true.mpr fun p hp => ?_, by kernel_rfl⟩
  simp only [List.mem_cons, List.not_mem_nil, or_false] at hp
  rcases hp with rfl | rfl | rfl | rfl
  · exact solidL_ints vs
  · rfl
  · rfl
  · rfl
theorem gA_1 {ks : List Pr} {vs : List Int} {n : Int} {r : Bool} (h : pureA ks vs n 1 false = some r) : gA [.dct ks (vs.map D.int), .int n, .int 1] = some (.bool r) :=
  pureA_ok0 h (s63_1 _ _) (hall63 ks vs n 1 0)
theorem gA_0 {ks : List Pr} {vs : List Int} {n : Int} {r : Bool} (h : pureA ks vs n 0 true = some r) : gA [.dct ks (vs.map D.int), .int n, .int 0] = some (.bool r) :=
  pureA_ok0 h (s63_0 _ _) (hall63 ks vs n 0 1)

/-- a board's figures, from its colours -/
noncomputable def iv (bs : List Bool) : List Int := bs.map bI
noncomputable def dv (bs : List Bool) : List D := (iv bs).map D.int

/-- the law's answer on a board of size n with colours bs, in plain words -/
noncomputable def plainOk (w1 w0 t1 t0 : List Bool → Bool) (bs : List Bool) : Bool :=
  (w1 bs != w0 bs) && ((List.range bs.length).all fun i => bs.getD i true || !((w1 bs && !w1 (bs.set i true)) || (w0 (bs.set i true) && !w0 bs))) && (t1 (bs.map (!·)) == w0 bs) && (t0 (bs.map (!·)) == w1 bs)
noncomputable def figOk (k : Nat) (o : Option D) (bs : List Bool) : Bool := match o with
  | some (.lst l) => (match intsOf l with
    | some ms => decide (ms.length ≤ 900) && decide ((ms ++ [0, 0, 0, 0, 0, 0, 0, 0, 0]).take k = iv bs)
    | none => false)
  | _ => false
theorem figOk_of {k : Nat} {o : Option D} {bs : List Bool} (h : figOk k o bs = true) : ∃ l, o = some (.lst l) ∧ l.length ≤ 900 ∧ (l ++ z9).take k = dv bs := by
  unfold figOk at h
  split at h
  · split at h
    · rename_i l ms e
      simp only [Bool.and_eq_true, decide_eq_true_eq] at h
      have e' := intsOf_eq e
      refine ⟨_, rfl, by rw [e']; simpa using h.1, ?_⟩
      rw [e', dv, ← h.2, List.map_take, List.map_append]
      rfl
    · cases h
  · cases h
noncomputable def isI (o : Option D) (m : Int) : Bool := match o with
  | some (.int i) => i == m
  | _ => false
theorem isI_of {o : Option D} {m : Int} (h : isI o m = true) : o = some (.int m) := by
  unfold isI at h
  split at h
  · rw [eq_of_beq h]
  · cases h
noncomputable def isB (o : Option Bool) (b : Bool) : Bool := match o with
  | some c => c == b
  | none => false
theorem isB_of {o : Option Bool} {b : Bool} (h : isB o b = true) : o = some b := by
  unfold isB at h
  split at h
  · rw [eq_of_beq h]
  · cases h
/-- all that is to be told of one board by the kernel -/
noncomputable def chk (n : Nat) (ks ts : List Pr) (w1 w0 t1 t0 : List Bool → Bool) (bs : List Bool) : Bool :=
  isB (pureA ks (iv bs) n 1 false) (w1 bs) && isB (pureA ks (iv bs) n 0 true) (w0 bs) && isB (pureA ts (iv bs) n 1 false) (t1 bs) && isB (pureA ts (iv bs) n 0 true) (t0 bs)
    && figOk (n * n) (gIq (.int (nOf bs))) bs && isI (gDq (dv bs)) (nOf bs) && plainOk w1 w0 t1 t0 bs
structure Told (n : Nat) (z : Int) (ks ts : List Pr) (w1 w0 t1 t0 : List Bool → Bool) (bs : List Bool) : Prop where
  r1 : gA [.dct ks (dv bs), .int z, .int 1] = some (.bool (w1 bs))
  r0 : gA [.dct ks (dv bs), .int z, .int 0] = some (.bool (w0 bs))
  s1 : gA [.dct ts (dv bs), .int z, .int 1] = some (.bool (t1 bs))
  s0 : gA [.dct ts (dv bs), .int z, .int 0] = some (.bool (t0 bs))
  fI : ∃ l, gI [.int (nOf bs), .int 1] = some (.lst l) ∧ l.length ≤ 900 ∧ (l ++ z9).take (n * n) = dv bs
  fD : gD [.lst (dv bs), .int 1] = some (.int (nOf bs))
  pl : plainOk w1 w0 t1 t0 bs = true
theorem chk_ok {n : Nat} {ks ts : List Pr} {w1 w0 t1 t0 : List Bool → Bool} {bs : List Bool} {z : Int} (hz : (n : Int) = z) (h : chk n ks ts w1 w0 t1 t0 bs = true) : Told n z ks ts w1 w0 t1 t0 bs := by
  subst hz
  unfold chk at h
  simp only [Bool.and_eq_true] at h
  obtain ⟨⟨⟨⟨⟨⟨h1, h2⟩, h3⟩, h4⟩, h5⟩, h6⟩, h7⟩ := h
  obtain ⟨l, e, e1, e2⟩ := figOk_of h5
  exact ⟨gA_1 (isB_of h1), gA_0 (isB_of h2), gA_1 (isB_of h3), gA_0 (isB_of h4), ⟨l, gIq_ok e, e1, e2⟩, gDq_ok (isI_of h6), h7⟩
end Mine
namespace Mine
open PySem PySem.Spec PySem.Calls PyProof.Rows PySem.W
set_option linter.unusedVariables false
set_option maxRecDepth 100000
set_option Elab.async false

theorem exB6 {f : Ph → Stmt → Option Out} {s0 s1 s2 s3 s4 s5 : Stmt} {p0 p1 p2 p3 p4 p5 p6 : Ph} {d : Option D} (h0 : f p0 s0 = some (p1, none)) (h1 : f p1 s1 = some (p2, none)) (h2 : f p2 s2 = some (p3, none)) (h3 : f p3 s3 = some (p4, none)) (h4 : f p4 s4 = some (p5, none)) (h5 : f p5 s5 = some (p6, d)) : exB f [s0, s1, s2, s3, s4, s5] p0 = some (p6, d) := by
  cases d <;> simp only [exB, h0, h1, h2, h3, h4, h5, Option.bind_some]
section
variable {fA fB fI fD : List D → Option D}
theorem setA_cell (x z : Int) (fg bd : D) (a b : Bool) (c : Pr) (cu : Cur) : setA "cell" (keyD c) (φS x z fg bd a b cu) = φS x z fg bd a b (some (c, cu.bind (·.2))) := by
  match cu with
  | none => kernel_rfl
  | some (c', none) => kernel_rfl
  | some (c', some mo) => kernel_rfl
/-- the test on the greater board -/
theorem more_t {x z : Int} {fg bd more : D} {a b p q : Bool} {c : Pr} (h1 : fA [more, .int z, .int 1] = some (.bool p)) (h0 : fA [more, .int z, .int 0] = some (.bool q)) (h : ((a && !p) || (q && !b)) = false) :
    evV fA fB fI fD (φS x z fg bd a b (some (c, some more))) (ifT mrI) = some (.bool false) := by
  rw [mrI_t, h1, h0]
  cases a <;> cases b <;> cases p <;> cases q <;> first | rfl | exact absurd h (by decide)
theorem turn_ok {x z : Int} {fg : D} {ks : List Pr} {vs : List D} {a b : Bool} {c : Pr} {v : Int} (hd : dget ks vs c = some (.int v))
    (hm : v = 0 → ∃ more p q, (∀ mo, evV fA fB fI fD (φS x z fg (.dct ks vs) a b (some (c, mo))) (asE mrS) = some more) ∧ fA [more, .int z, .int 1] = some (.bool p) ∧ fA [more, .int z, .int 0] = some (.bool q) ∧ ((a && !p) || (q && !b)) = false) (mo : Option D) :
    ∃ mo', exB (exV fA fB fI fD 29) (foB lpS) (φS x z fg (.dct ks vs) a b (some (c, mo))) = some (φS x z fg (.dct ks vs) a b (some (c, mo')), none) := by
  have hT : evV fA fB fI fD (φS x z fg (.dct ks vs) a b (some (c, mo))) (ifT lpI) = some (.bool (v == 0)) := by
    rw [lpI_t, show ((c.1, c.2) : Pr) = c from rfl, hd]; rfl
  rw [lpB_eq]
  by_cases h : v = 0
  · obtain ⟨more, p, q, e, h1, h0, hf⟩ := hm h
    refine ⟨some more, ?_⟩
    have e1 : (v == 0) = true := by simpa using h
    simp only [exB, lpI_x, hT, e1, Option.bind_some, truthD_b, if_true, lpI_b, mrS_x, e, Option.map_some, mrI_x, more_t h1 h0 hf, Bool.false_eq_true, if_false, mrI_o]
  · refine ⟨mo, ?_⟩
    have e1 : (v == 0) = false := by simpa using h
    simp only [exB, lpI_x, hT, e1, Option.bind_some, truthD_b, Bool.false_eq_true, if_false, lpI_o]
theorem loop_ok' {x z : Int} {fg bd : D} {a b : Bool} : ∀ (l : List Pr) (cu : Cur), (∀ c ∈ l, ∀ mo, ∃ mo', exB (exV fA fB fI fD 29) (foB lpS) (φS x z fg bd a b (some (c, mo))) = some (φS x z fg bd a b (some (c, mo')), none)) →
    ∃ cu', forD (exB (exV fA fB fI fD 29) (foB lpS)) "cell" (l.map keyD) (φS x z fg bd a b cu) = some (φS x z fg bd a b cu', none) ∧ ((∃ s, cu = some s) ∨ l ≠ [] → ∃ s, cu' = some s)
  | [], cu, _ => ⟨cu, rfl, fun h => h.elim id fun h => absurd rfl h⟩
  | c :: r, cu, h => by
    obtain ⟨mo', e⟩ := h c List.mem_cons_self (cu.bind (·.2))
    obtain ⟨cu', e', hs⟩ := loop_ok' r (some (c, mo')) fun c' hc => h c' (List.mem_cons_of_mem _ hc)
    refine ⟨cu', ?_, fun _ => hs (.inl ⟨_, rfl⟩)⟩
    rw [List.map_cons, forD, setA_cell, e, Option.bind_some]
    exact e'
/-- what is asked of a cell -/
noncomputable def CellOk (fA fB fI fD : List D → Option D) (x z : Int) (fg : D) (ks : List Pr) (vs : List D) (a b : Bool) (c : Pr) : Prop :=
  ∃ v : Int, dget ks vs c = some (.int v) ∧ (v = 0 → ∃ more p q, (∀ mo, evV fA fB fI fD (φS x z fg (.dct ks vs) a b (some (c, mo))) (asE mrS) = some more) ∧ fA [more, .int z, .int 1] = some (.bool p) ∧ fA [more, .int z, .int 0] = some (.bool q) ∧ ((a && !p) || (q && !b)) = false)
theorem CellOk.intro {fA fB fI fD : List D → Option D} {x z : Int} {fg : D} {ks : List Pr} {vs : List D} {a b : Bool} {c : Pr} {v : Int} {more : D} {p q : Bool} (h : dget ks vs c = some (.int v)) (h1 : ∀ mo, evV fA fB fI fD (φS x z fg (.dct ks vs) a b (some (c, mo))) (asE mrS) = some more)
    (h2 : fA [more, .int z, .int 1] = some (.bool p)) (h3 : fA [more, .int z, .int 0] = some (.bool q)) (h4 : v = 0 → ((a && !p) || (q && !b)) = false) : CellOk fA fB fI fD x z fg ks vs a b c :=
  ⟨v, h, fun e => ⟨more, p, q, h1, h2, h3, h4 e⟩⟩
/-- the law from its first test on -/
theorem run_ok {x z : Int} {fg td u : D} {ks : List Pr} {vs : List D} {a b : Bool} (hk : ks.length ≤ 1000) (hne : ks ≠ []) (hab : (a != b) = true)
    (hl : ∀ c ∈ ks, CellOk fA fB fI fD x z fg ks vs a b c)
    (ht : ∀ c mo, evV fA fB fI fD (φS x z fg (.dct ks vs) a b (some (c, mo))) (asE q2) = some td) (ht1 : fA [td, .int z, .int 1] = some (.bool b)) (ht0 : fA [td, .int z, .int 0] = some (.bool a))
    (hu : ∀ c mo, evV fA fB fI fD (φT x z fg (.dct ks vs) a b (some (c, mo)) td) (asE q4) = some u) (hu1 : fA [u, .int z, .int 1] = some (.bool true)) (hu0 : fA [u, .int z, .int 0] = some (.bool false)) :
    ∃ φ', exB (exV fA fB fI fD 30) qB (φS x z fg (.dct ks vs) a b none) = some (φ', some (.bool true)) := by
  obtain ⟨cu, e, hs⟩ := loop_ok' (fA := fA) (fB := fB) (fI := fI) (fD := fD) (x := x) (z := z) (fg := fg) (bd := .dct ks vs) (a := a) (b := b) ks none fun c hc mo => by
    obtain ⟨v, hd, hm⟩ := hl c hc
    exact turn_ok hd hm mo
  obtain ⟨⟨c, mo⟩, rfl⟩ := hs (.inr hne)
  refine ⟨φU x z fg (.dct ks vs) a b (some (c, mo)) td u, ?_⟩
  have hab' : (a == b) = false := by cases a <;> cases b <;> first | rfl | exact absurd hab (by decide)
  have e0 : exV fA fB fI fD 30 (φS x z fg (.dct ks vs) a b none) q0 = some (φS x z fg (.dct ks vs) a b none, none) := by
    rw [q0_x, q0_t, hab', Option.bind_some, truthD_b, Option.bind_some, if_neg (by decide), q0_o]; rfl
  have e1 : exV fA fB fI fD 30 (φS x z fg (.dct ks vs) a b none) lpS = some (φS x z fg (.dct ks vs) a b (some (c, mo)), none) := by
    have h1 : (φS x z fg (.dct ks vs) a b none).lookup ("board" : Str) = some (.dct ks vs) := by kernel_rfl
    have h2 : itemsD (.dct ks vs) = some (ks.map keyD) := by simp [itemsD, hk]
    rw [lp_x, h1, Option.bind_some, h2, Option.bind_some, e]
  have e2 : exV fA fB fI fD 30 (φS x z fg (.dct ks vs) a b (some (c, mo))) q2 = some (φT x z fg (.dct ks vs) a b (some (c, mo)) td, none) := by
    rw [q2_x, ht]; rfl
  have e3 : exV fA fB fI fD 30 (φT x z fg (.dct ks vs) a b (some (c, mo)) td) q3 = some (φT x z fg (.dct ks vs) a b (some (c, mo)) td, none) := by
    have : evV fA fB fI fD (φT x z fg (.dct ks vs) a b (some (c, mo)) td) (ifT q3) = some (.bool false) := by
      rw [q3_t, ht1, ht0]
      cases a <;> cases b <;> rfl
    rw [q3_x, this, Option.bind_some, truthD_b, Option.bind_some, if_neg (by decide), q3_o]; rfl
  have e4 : exV fA fB fI fD 30 (φT x z fg (.dct ks vs) a b (some (c, mo)) td) q4 = some (φU x z fg (.dct ks vs) a b (some (c, mo)) td u, none) := by
    rw [q4_x, hu]; rfl
  have e5 : exV fA fB fI fD 30 (φU x z fg (.dct ks vs) a b (some (c, mo)) td u) q5 = some (φU x z fg (.dct ks vs) a b (some (c, mo)) td u, some (.bool true)) := by
    rw [q5_x, q5_t, hu1, hu0]; rfl
  rw [qB_eq]
  exact exB6 e0 e1 e2 e3 e4 e5
end
end Mine
namespace Mine
open PySem PySem.Spec PySem.Calls PyProof.Rows PySem.W
set_option linter.unusedVariables false
set_option maxRecDepth 100000
set_option Elab.async false
/-- a table: the answer on the board of number m is its bit m -/
noncomputable def tb (t : Nat) (bs : List Bool) : Bool := Nat.testBit t (nOf bs)
noncomputable def w1_3 : List Bool → Bool := tb 13354819073471080586287837662194588817041789447836299687245063138158668855774887666060882128826695515298304878736162861267001496163833150552739249599283200
noncomputable def w0_3 : List Bool → Bool := tb 52988856471516513286187336011257310437576372756093690478498305563095174298659310740992169340207912391726979450323189586752386648113419393694399406800895
noncomputable def t1_3 : List Bool → Bool := tb 13407807929942597099572702456592154883905413435176359924400246591150090939232790268309564764401331852675461749597937541268523647616253433817360465578213504
noncomputable def t0_3 : List Bool → Bool := tb 1322541613691243573952385416033453323314852571673090840756708492309533765571575014570108588548509585230235195693136129073183427870591
noncomputable def chk3 (bs : List Bool) : Bool := chk 3 k9 t9 w1_3 w0_3 t1_3 t0_3 bs
noncomputable def w1_2 : List Bool → Bool := tb 60640
noncomputable def w0_2 : List Bool → Bool := tb 4895
noncomputable def t1_2 : List Bool → Bool := tb 63688
noncomputable def t0_2 : List Bool → Bool := tb 1847
noncomputable def chk2 (bs : List Bool) : Bool := chk 2 k4 t4 w1_2 w0_2 t1_2 t0_2 bs
noncomputable def w1_1 : List Bool → Bool := tb 2
noncomputable def w0_1 : List Bool → Bool := tb 1
noncomputable def t1_1 : List Bool → Bool := tb 2
noncomputable def t0_1 : List Bool → Bool := tb 1
noncomputable def chk1 (bs : List Bool) : Bool := chk 1 k1 Mine.t1 w1_1 w0_1 t1_1 t0_1 bs
theorem ck3_0 : ∀ b5 b6 b7 b8 : Bool, chk3 [false, false, false, false, false, b5, b6, b7, b8] = true := by decide +kernel
theorem ck3_1 : ∀ b5 b6 b7 b8 : Bool, chk3 [false, false, false, false, true, b5, b6, b7, b8] = true := by decide +kernel
theorem ck3_2 : ∀ b5 b6 b7 b8 : Bool, chk3 [false, false, false, true, false, b5, b6, b7, b8] = true := by decide +kernel
theorem ck3_3 : ∀ b5 b6 b7 b8 : Bool, chk3 [false, false, false, true, true, b5, b6, b7, b8] = true := by decide +kernel
theorem ck3_4 : ∀ b5 b6 b7 b8 : Bool, chk3 [false, false, true, false, false, b5, b6, b7, b8] = true := by decide +kernel
theorem ck3_5 : ∀ b5 b6 b7 b8 : Bool, chk3 [false, false, true, false, true, b5, b6, b7, b8] = true := by decide +kernel
theorem ck3_6 : ∀ b5 b6 b7 b8 : Bool, chk3 [false, false, true, true, false, b5, b6, b7, b8] = true := by decide +kernel
theorem ck3_7 : ∀ b5 b6 b7 b8 : Bool, chk3 [false, false, true, true, true, b5, b6, b7, b8] = true := by decide +kernel
theorem ck3_8 : ∀ b5 b6 b7 b8 : Bool, chk3 [false, true, false, false, false, b5, b6, b7, b8] = true := by decide +kernel
theorem ck3_9 : ∀ b5 b6 b7 b8 : Bool, chk3 [false, true, false, false, true, b5, b6, b7, b8] = true := by decide +kernel
theorem ck3_10 : ∀ b5 b6 b7 b8 : Bool, chk3 [false, true, false, true, false, b5, b6, b7, b8] = true := by decide +kernel
theorem ck3_11 : ∀ b5 b6 b7 b8 : Bool, chk3 [false, true, false, true, true, b5, b6, b7, b8] = true := by decide +kernel
theorem ck3_12 : ∀ b5 b6 b7 b8 : Bool, chk3 [false, true, true, false, false, b5, b6, b7, b8] = true := by decide +kernel
theorem ck3_13 : ∀ b5 b6 b7 b8 : Bool, chk3 [false, true, true, false, true, b5, b6, b7, b8] = true := by decide +kernel
theorem ck3_14 : ∀ b5 b6 b7 b8 : Bool, chk3 [false, true, true, true, false, b5, b6, b7, b8] = true := by decide +kernel
theorem ck3_15 : ∀ b5 b6 b7 b8 : Bool, chk3 [false, true, true, true, true, b5, b6, b7, b8] = true := by decide +kernel
theorem ck3_16 : ∀ b5 b6 b7 b8 : Bool, chk3 [true, false, false, false, false, b5, b6, b7, b8] = true := by decide +kernel
theorem ck3_17 : ∀ b5 b6 b7 b8 : Bool, chk3 [true, false, false, false, true, b5, b6, b7, b8] = true := by decide +kernel
theorem ck3_18 : ∀ b5 b6 b7 b8 : Bool, chk3 [true, false, false, true, false, b5, b6, b7, b8] = true := by decide +kernel
theorem ck3_19 : ∀ b5 b6 b7 b8 : Bool, chk3 [true, false, false, true, true, b5, b6, b7, b8] = true := by decide +kernel
theorem ck3_20 : ∀ b5 b6 b7 b8 : Bool, chk3 [true, false, true, false, false, b5, b6, b7, b8] = true := by decide +kernel
theorem ck3_21 : ∀ b5 b6 b7 b8 : Bool, chk3 [true, false, true, false, true, b5, b6, b7, b8] = true := by decide +kernel
theorem ck3_22 : ∀ b5 b6 b7 b8 : Bool, chk3 [true, false, true, true, false, b5, b6, b7, b8] = true := by decide +kernel
theorem ck3_23 : ∀ b5 b6 b7 b8 : Bool, chk3 [true, false, true, true, true, b5, b6, b7, b8] = true := by decide +kernel
theorem ck3_24 : ∀ b5 b6 b7 b8 : Bool, chk3 [true, true, false, false, false, b5, b6, b7, b8] = true := by decide +kernel
theorem ck3_25 : ∀ b5 b6 b7 b8 : Bool, chk3 [true, true, false, false, true, b5, b6, b7, b8] = true := by decide +kernel
theorem ck3_26 : ∀ b5 b6 b7 b8 : Bool, chk3 [true, true, false, true, false, b5, b6, b7, b8] = true := by decide +kernel
theorem ck3_27 : ∀ b5 b6 b7 b8 : Bool, chk3 [true, true, false, true, true, b5, b6, b7, b8] = true := by decide +kernel
theorem ck3_28 : ∀ b5 b6 b7 b8 : Bool, chk3 [true, true, true, false, false, b5, b6, b7, b8] = true := by decide +kernel
theorem ck3_29 : ∀ b5 b6 b7 b8 : Bool, chk3 [true, true, true, false, true, b5, b6, b7, b8] = true := by decide +kernel
theorem ck3_30 : ∀ b5 b6 b7 b8 : Bool, chk3 [true, true, true, true, false, b5, b6, b7, b8] = true := by decide +kernel
theorem ck3_31 : ∀ b5 b6 b7 b8 : Bool, chk3 [true, true, true, true, true, b5, b6, b7, b8] = true := by decide +kernel
theorem ck3 : ∀ b0 b1 b2 b3 b4 b5 b6 b7 b8 : Bool, chk3 [b0, b1, b2, b3, b4, b5, b6, b7, b8] = true
  | false, false, false, false, false => ck3_0
  | false, false, false, false, true => ck3_1
  | false, false, false, true, false => ck3_2
  | false, false, false, true, true => ck3_3
  | false, false, true, false, false => ck3_4
  | false, false, true, false, true => ck3_5
  | false, false, true, true, false => ck3_6
  | false, false, true, true, true => ck3_7
  | false, true, false, false, false => ck3_8
  | false, true, false, false, true => ck3_9
  | false, true, false, true, false => ck3_10
  | false, true, false, true, true => ck3_11
  | false, true, true, false, false => ck3_12
  | false, true, true, false, true => ck3_13
  | false, true, true, true, false => ck3_14
  | false, true, true, true, true => ck3_15
  | true, false, false, false, false => ck3_16
  | true, false, false, false, true => ck3_17
  | true, false, false, true, false => ck3_18
  | true, false, false, true, true => ck3_19
  | true, false, true, false, false => ck3_20
  | true, false, true, false, true => ck3_21
  | true, false, true, true, false => ck3_22
  | true, false, true, true, true => ck3_23
  | true, true, false, false, false => ck3_24
  | true, true, false, false, true => ck3_25
  | true, true, false, true, false => ck3_26
  | true, true, false, true, true => ck3_27
  | true, true, true, false, false => ck3_28
  | true, true, true, false, true => ck3_29
  | true, true, true, true, false => ck3_30
  | true, true, true, true, true => ck3_31
theorem ck2 : ∀ b0 b1 b2 b3 : Bool, chk2 [b0, b1, b2, b3] = true := by decide +kernel
theorem ck1 : ∀ b0 : Bool, chk1 [b0] = true := by decide +kernel
end Mine
namespace Mine
open PySem PySem.Spec PySem.Calls PyProof.Rows PySem.W
set_option linter.unusedVariables false
set_option maxRecDepth 100000
set_option Elab.async false
theorem bI_not (b : Bool) : 1 - bI b = bI (!b) := by cases b <;> rfl
theorem slice_ok {l : List D} {k : Int} {n : Nat} (h0 : 0 ≤ k) (h1 : small k = true) (h2 : l.length ≤ 1000) (h3 : k.toNat = n) : sliceD (.lst l) (.int k) = some (.lst (l.take n)) := by
  subst h3
  unfold sliceD
  simp only [h1, h0, h2, decide_true, Bool.and_self, if_true]
theorem cat_ok {l m : List D} (h : l.length + m.length ≤ 1000) : binD .Add (.lst l) (.lst m) = some (.lst (l ++ m)) := by
  unfold binD
  simp only [h, decide_true, if_true]
theorem cmp_same (x : Int) : Option.map D.bool (cmpD .NotEq (.int x) (.int x)) = some (.bool false) := by
  unfold cmpD
  simp
section
variable {n : Nat} {z : Int} {ks ts : List Pr} {w1 w0 t1 t0 : List Bool → Bool} {bs : List Bool}
theorem A0_ok (t : Told n z ks ts w1 w0 t1 t0 bs) (hz : (n : Int) = z) (hn : n ≤ 3) : exS (GV gA gBo gI gD) 30 30 n73 (φ0 (nOf bs) z) a0 = some (φF (nOf bs) z (.lst (dv bs)), none) := by
  subst hz
  obtain ⟨l, e1, e2, e3⟩ := t.fI
  have hs : (small (n : Int)) = true := by simp only [small, Bool.and_eq_true, decide_eq_true_eq]; omega
  have hz : ((n : Int) * n).toNat = n * n := by omega
  have hz2 : small ((n : Int) * n) = true := by
    have : n * n ≤ 9 := Nat.mul_le_mul hn hn
    have e : ((n : Int) * n) = ((n * n : Nat) : Int) := by simp
    rw [e]
    simp only [small, Bool.and_eq_true, decide_eq_true_eq]; omega
  have hz0 : (0 : Int) ≤ (n : Int) * n := by omega
  have hl : (l ++ z9).length ≤ 1000 := by rw [List.length_append]; show l.length + 9 ≤ 1000; omega
  rw [a0_eq, e1, Option.bind_some, cat_ok (by show l.length + 9 ≤ 1000; omega), Option.bind_some, if_pos hs, Option.bind_some, slice_ok hz0 hz2 hl hz, e3, Option.map_some]
theorem A1_ok (t : Told n z ks ts w1 w0 t1 t0 bs) : exS (GV gA gBo gI gD) 30 30 n73 (φF (nOf bs) z (.lst (dv bs))) a1 = some (φF (nOf bs) z (.lst (dv bs)), none) := by
  rw [a1_eq, t.fD, Option.bind_some, cmp_same, Option.bind_some, truthD_b, Option.bind_some, if_neg (by decide), a1_o]; rfl
theorem A2_ok (hb : gBo [.lst (dv bs), .int z] = some (.dct ks (dv bs))) : exS (GV gA gBo gI gD) 30 30 n73 (φF (nOf bs) z (.lst (dv bs))) a2 = some (φL (nOf bs) z (.lst (dv bs)) (.dct ks (dv bs)), none) := by
  rw [a2_eq, hb, Option.map_some]
theorem φ0_eq (x z : Int) : setA "number" (.int x) [("size", .int z)] = φ0 x z := by kernel_rfl
theorem exB3 {f : Ph → Stmt → Option Out} {s0 s1 s2 : Stmt} {p0 p1 p2 p3 : Ph} (h0 : f p0 s0 = some (p1, none)) (h1 : f p1 s1 = some (p2, none)) (h2 : f p2 s2 = some (p3, none)) : exB f [s0, s1, s2] p0 = some (p3, none) := by
  simp only [exB, h0, h1, h2, Option.bind_some]
theorem qA_ok0 (t : Told n z ks ts w1 w0 t1 t0 bs) (hz : (n : Int) = z) (hn : n ≤ 3) (hb : gBo [.lst (dv bs), .int z] = some (.dct ks (dv bs))) :
    exB (exS (GV gA gBo gI gD) 30 30 n73) [a0, a1, a2] (φ0 (nOf bs) z) = some (φL (nOf bs) z (.lst (dv bs)) (.dct ks (dv bs)), none) :=
  exB3 (A0_ok t hz hn) (A1_ok t) (A2_ok hb)
theorem qA_ok (t : Told n z ks ts w1 w0 t1 t0 bs) (hz : (n : Int) = z) (hn : n ≤ 3) (hb : gBo [.lst (dv bs), .int z] = some (.dct ks (dv bs))) :
    exB (exS G1 30 30 n73) qA (setA "number" (.int (nOf bs)) [("size", .int z)]) = some (φL (nOf bs) z (.lst (dv bs)) (.dct ks (dv bs)), none) := by
  have e := qA_ok0 t hz hn hb
  rw [← qA_eq, ← G1_GV, ← φ0_eq] at e
  exact e
end
theorem φS_eq (x z : Int) (fg bd : D) (a b : Bool) : setA "ones" (.bool a) (setA "noughts" (.bool b) (φL x z fg bd)) = φS x z fg bd a b none := by kernel_rfl
theorem board_fin {z x : Int} {fg bd : D} {a b : Bool} (hA : exB (exS G1 30 30 n73) qA (setA "number" (.int x) [("size", .int z)]) = some (φL x z fg bd, none)) (hO : gA [bd, .int z, .int 1] = some (.bool a)) (hZ : gA [bd, .int z, .int 0] = some (.bool b))
    (e : ∃ φ', exB (exV gA gBo gI gD 30) qB (φS x z fg bd a b none) = some (φ', some (.bool true))) : Board z x := by
  obtain ⟨φ', e⟩ := e
  refine ⟨_, _, _, φ', hA, (eO_eq x z fg bd).trans hO, (eZ_eq x z fg bd).trans hZ, ?_⟩
  rw [G1_GV, φS_eq]
  exact e
end Mine
namespace Mine
open PySem PySem.Spec PySem.Calls PyProof.Rows PySem.W
set_option linter.unusedVariables false
set_option maxRecDepth 100000
set_option Elab.async false
/-- a step of the plain law -/
theorem plain_step {w1 w0 t1 t0 : List Bool → Bool} {bs : List Bool} (h : plainOk w1 w0 t1 t0 bs = true) {i : Nat} (hi : i < bs.length) (hb : bs.getD i true = false) : ((w1 bs && !w1 (bs.set i true)) || (w0 (bs.set i true) && !w0 bs)) = false := by
  simp only [plainOk, Bool.and_eq_true] at h
  have := List.all_eq_true.mp h.1.1.2 i (List.mem_range.mpr hi)
  rw [hb, Bool.false_or, Bool.not_eq_true'] at this
  exact this
theorem plain_ne {w1 w0 t1 t0 : List Bool → Bool} {bs : List Bool} (h : plainOk w1 w0 t1 t0 bs = true) : (w1 bs != w0 bs) = true := by
  simp only [plainOk, Bool.and_eq_true] at h
  exact h.1.1.1
theorem plain_t1 {w1 w0 t1 t0 : List Bool → Bool} {bs : List Bool} (h : plainOk w1 w0 t1 t0 bs = true) : t1 (bs.map (!·)) = w0 bs := by
  simp only [plainOk, Bool.and_eq_true] at h
  exact eq_of_beq h.1.2
theorem plain_t0 {w1 w0 t1 t0 : List Bool → Bool} {bs : List Bool} (h : plainOk w1 w0 t1 t0 bs = true) : t0 (bs.map (!·)) = w1 bs := by
  simp only [plainOk, Bool.and_eq_true] at h
  exact eq_of_beq h.2
theorem bI_0 {b : Bool} (h : bI b = 0) : b = false := by cases b; rfl; exact absurd h (by decide)

theorem board3 {w1 w0 t1 t0 : List Bool → Bool} (TT : ∀ b0 b1 b2 b3 b4 b5 b6 b7 b8 : Bool, Told 3 3 k9 t9 w1 w0 t1 t0 [b0, b1, b2, b3, b4, b5, b6, b7, b8]) (hf1 : w1 [true, true, true, true, true, true, true, true, true] = true) (hf0 : w0 [true, true, true, true, true, true, true, true, true] = false) (b0 b1 b2 b3 b4 b5 b6 b7 b8 : Bool) : Board 3 (nOf [b0, b1, b2, b3, b4, b5, b6, b7, b8]) := by
  have t : Told 3 3 k9 t9 w1 w0 t1 t0 [b0, b1, b2, b3, b4, b5, b6, b7, b8] := TT b0 b1 b2 b3 b4 b5 b6 b7 b8
  have tf : Told 3 3 k9 t9 w1 w0 t1 t0 [true, true, true, true, true, true, true, true, true] := TT true true true true true true true true true
  have tt : Told 3 3 k9 t9 w1 w0 t1 t0 [!b0, !b1, !b2, !b3, !b4, !b5, !b6, !b7, !b8] := TT (!b0) (!b1) (!b2) (!b3) (!b4) (!b5) (!b6) (!b7) (!b8)
  have hw : (w1 [b0, b1, b2, b3, b4, b5, b6, b7, b8] != w0 [b0, b1, b2, b3, b4, b5, b6, b7, b8]) = true := plain_ne t.pl
  have ht1 : gA [.dct t9 (dv [!b0, !b1, !b2, !b3, !b4, !b5, !b6, !b7, !b8]), .int 3, .int 1] = some (.bool (w0 [b0, b1, b2, b3, b4, b5, b6, b7, b8])) := by rw [← plain_t1 t.pl]; exact tt.s1
  have ht0 : gA [.dct t9 (dv [!b0, !b1, !b2, !b3, !b4, !b5, !b6, !b7, !b8]), .int 3, .int 0] = some (.bool (w1 [b0, b1, b2, b3, b4, b5, b6, b7, b8])) := by rw [← plain_t0 t.pl]; exact tt.s0
  have hu1 : gA [.dct k9 (dv [true, true, true, true, true, true, true, true, true]), .int 3, .int 1] = some (.bool true) := tf.r1.trans (by rw [hf1])
  have hu0 : gA [.dct k9 (dv [true, true, true, true, true, true, true, true, true]), .int 3, .int 0] = some (.bool false) := tf.r0.trans (by rw [hf0])
  have hb : gBo [.lst (dv [b0, b1, b2, b3, b4, b5, b6, b7, b8]), .int 3] = some (.dct k9 (dv [b0, b1, b2, b3, b4, b5, b6, b7, b8])) := bo3 (.int (bI b0)) (.int (bI b1)) (.int (bI b2)) (.int (bI b3)) (.int (bI b4)) (.int (bI b5)) (.int (bI b6)) (.int (bI b7)) (.int (bI b8))
  have hbf : gBo [.lst (dv [true, true, true, true, true, true, true, true, true]), .int 3] = some (.dct k9 (dv [true, true, true, true, true, true, true, true, true])) := bo3 (.int 1) (.int 1) (.int 1) (.int 1) (.int 1) (.int 1) (.int 1) (.int 1) (.int 1)
  have htd : D.dct t9 [.int (1 - bI b0), .int (1 - bI b1), .int (1 - bI b2), .int (1 - bI b3), .int (1 - bI b4), .int (1 - bI b5), .int (1 - bI b6), .int (1 - bI b7), .int (1 - bI b8)] = .dct t9 (dv [!b0, !b1, !b2, !b3, !b4, !b5, !b6, !b7, !b8]) := by simp only [bI_not]; rfl
  refine board_fin (qA_ok t (by decide) (by decide) hb) t.r1 t.r0 (run_ok (fA := gA) (fB := gBo) (fI := gI) (fD := gD) (x := nOf [b0, b1, b2, b3, b4, b5, b6, b7, b8]) (z := 3) (fg := .lst (dv [b0, b1, b2, b3, b4, b5, b6, b7, b8])) (td := .dct t9 (dv [!b0, !b1, !b2, !b3, !b4, !b5, !b6, !b7, !b8])) (u := .dct k9 (dv [true, true, true, true, true, true, true, true, true])) (ks := k9) (vs := dv [b0, b1, b2, b3, b4, b5, b6, b7, b8]) (a := w1 [b0, b1, b2, b3, b4, b5, b6, b7, b8]) (b := w0 [b0, b1, b2, b3, b4, b5, b6, b7, b8]) (by decide) (by decide) hw ?_ (fun c mo => (tu3 gA gBo gI gD _ _ _ (bI b0) (bI b1) (bI b2) (bI b3) (bI b4) (bI b5) (bI b6) (bI b7) (bI b8) _ _ c mo).trans (congrArg some htd)) ht1 ht0 (fun c mo => (fu3 gA gBo gI gD _ _ _ _ _ _ c mo).trans hbf) hu1 hu0)
  intro c hc
  simp only [k9, List.mem_cons, List.not_mem_nil, or_false] at hc
  rcases hc with rfl | rfl | rfl | rfl | rfl | rfl | rfl | rfl | rfl
  · exact CellOk.intro (v := bI b0) rfl (fun mo => mr3_0 gA gBo gI gD _ _ _ (.int (bI b0)) (.int (bI b1)) (.int (bI b2)) (.int (bI b3)) (.int (bI b4)) (.int (bI b5)) (.int (bI b6)) (.int (bI b7)) (.int (bI b8)) _ _ mo) (TT true b1 b2 b3 b4 b5 b6 b7 b8).r1 (TT true b1 b2 b3 b4 b5 b6 b7 b8).r0 (fun h => plain_step t.pl (i := 0) (show 0 < 9 by decide) (bI_0 h))
  · exact CellOk.intro (v := bI b1) rfl (fun mo => mr3_1 gA gBo gI gD _ _ _ (.int (bI b0)) (.int (bI b1)) (.int (bI b2)) (.int (bI b3)) (.int (bI b4)) (.int (bI b5)) (.int (bI b6)) (.int (bI b7)) (.int (bI b8)) _ _ mo) (TT b0 true b2 b3 b4 b5 b6 b7 b8).r1 (TT b0 true b2 b3 b4 b5 b6 b7 b8).r0 (fun h => plain_step t.pl (i := 1) (show 1 < 9 by decide) (bI_0 h))
  · exact CellOk.intro (v := bI b2) rfl (fun mo => mr3_2 gA gBo gI gD _ _ _ (.int (bI b0)) (.int (bI b1)) (.int (bI b2)) (.int (bI b3)) (.int (bI b4)) (.int (bI b5)) (.int (bI b6)) (.int (bI b7)) (.int (bI b8)) _ _ mo) (TT b0 b1 true b3 b4 b5 b6 b7 b8).r1 (TT b0 b1 true b3 b4 b5 b6 b7 b8).r0 (fun h => plain_step t.pl (i := 2) (show 2 < 9 by decide) (bI_0 h))
  · exact CellOk.intro (v := bI b3) rfl (fun mo => mr3_3 gA gBo gI gD _ _ _ (.int (bI b0)) (.int (bI b1)) (.int (bI b2)) (.int (bI b3)) (.int (bI b4)) (.int (bI b5)) (.int (bI b6)) (.int (bI b7)) (.int (bI b8)) _ _ mo) (TT b0 b1 b2 true b4 b5 b6 b7 b8).r1 (TT b0 b1 b2 true b4 b5 b6 b7 b8).r0 (fun h => plain_step t.pl (i := 3) (show 3 < 9 by decide) (bI_0 h))
  · exact CellOk.intro (v := bI b4) rfl (fun mo => mr3_4 gA gBo gI gD _ _ _ (.int (bI b0)) (.int (bI b1)) (.int (bI b2)) (.int (bI b3)) (.int (bI b4)) (.int (bI b5)) (.int (bI b6)) (.int (bI b7)) (.int (bI b8)) _ _ mo) (TT b0 b1 b2 b3 true b5 b6 b7 b8).r1 (TT b0 b1 b2 b3 true b5 b6 b7 b8).r0 (fun h => plain_step t.pl (i := 4) (show 4 < 9 by decide) (bI_0 h))
  · exact CellOk.intro (v := bI b5) rfl (fun mo => mr3_5 gA gBo gI gD _ _ _ (.int (bI b0)) (.int (bI b1)) (.int (bI b2)) (.int (bI b3)) (.int (bI b4)) (.int (bI b5)) (.int (bI b6)) (.int (bI b7)) (.int (bI b8)) _ _ mo) (TT b0 b1 b2 b3 b4 true b6 b7 b8).r1 (TT b0 b1 b2 b3 b4 true b6 b7 b8).r0 (fun h => plain_step t.pl (i := 5) (show 5 < 9 by decide) (bI_0 h))
  · exact CellOk.intro (v := bI b6) rfl (fun mo => mr3_6 gA gBo gI gD _ _ _ (.int (bI b0)) (.int (bI b1)) (.int (bI b2)) (.int (bI b3)) (.int (bI b4)) (.int (bI b5)) (.int (bI b6)) (.int (bI b7)) (.int (bI b8)) _ _ mo) (TT b0 b1 b2 b3 b4 b5 true b7 b8).r1 (TT b0 b1 b2 b3 b4 b5 true b7 b8).r0 (fun h => plain_step t.pl (i := 6) (show 6 < 9 by decide) (bI_0 h))
  · exact CellOk.intro (v := bI b7) rfl (fun mo => mr3_7 gA gBo gI gD _ _ _ (.int (bI b0)) (.int (bI b1)) (.int (bI b2)) (.int (bI b3)) (.int (bI b4)) (.int (bI b5)) (.int (bI b6)) (.int (bI b7)) (.int (bI b8)) _ _ mo) (TT b0 b1 b2 b3 b4 b5 b6 true b8).r1 (TT b0 b1 b2 b3 b4 b5 b6 true b8).r0 (fun h => plain_step t.pl (i := 7) (show 7 < 9 by decide) (bI_0 h))
  · exact CellOk.intro (v := bI b8) rfl (fun mo => mr3_8 gA gBo gI gD _ _ _ (.int (bI b0)) (.int (bI b1)) (.int (bI b2)) (.int (bI b3)) (.int (bI b4)) (.int (bI b5)) (.int (bI b6)) (.int (bI b7)) (.int (bI b8)) _ _ mo) (TT b0 b1 b2 b3 b4 b5 b6 b7 true).r1 (TT b0 b1 b2 b3 b4 b5 b6 b7 true).r0 (fun h => plain_step t.pl (i := 8) (show 8 < 9 by decide) (bI_0 h))
theorem board2 {w1 w0 t1 t0 : List Bool → Bool} (TT : ∀ b0 b1 b2 b3 : Bool, Told 2 2 k4 t4 w1 w0 t1 t0 [b0, b1, b2, b3]) (hf1 : w1 [true, true, true, true] = true) (hf0 : w0 [true, true, true, true] = false) (b0 b1 b2 b3 : Bool) : Board 2 (nOf [b0, b1, b2, b3]) := by
  have t : Told 2 2 k4 t4 w1 w0 t1 t0 [b0, b1, b2, b3] := TT b0 b1 b2 b3
  have tf : Told 2 2 k4 t4 w1 w0 t1 t0 [true, true, true, true] := TT true true true true
  have tt : Told 2 2 k4 t4 w1 w0 t1 t0 [!b0, !b1, !b2, !b3] := TT (!b0) (!b1) (!b2) (!b3)
  have hw : (w1 [b0, b1, b2, b3] != w0 [b0, b1, b2, b3]) = true := plain_ne t.pl
  have ht1 : gA [.dct t4 (dv [!b0, !b1, !b2, !b3]), .int 2, .int 1] = some (.bool (w0 [b0, b1, b2, b3])) := by rw [← plain_t1 t.pl]; exact tt.s1
  have ht0 : gA [.dct t4 (dv [!b0, !b1, !b2, !b3]), .int 2, .int 0] = some (.bool (w1 [b0, b1, b2, b3])) := by rw [← plain_t0 t.pl]; exact tt.s0
  have hu1 : gA [.dct k4 (dv [true, true, true, true]), .int 2, .int 1] = some (.bool true) := tf.r1.trans (by rw [hf1])
  have hu0 : gA [.dct k4 (dv [true, true, true, true]), .int 2, .int 0] = some (.bool false) := tf.r0.trans (by rw [hf0])
  have hb : gBo [.lst (dv [b0, b1, b2, b3]), .int 2] = some (.dct k4 (dv [b0, b1, b2, b3])) := bo2 (.int (bI b0)) (.int (bI b1)) (.int (bI b2)) (.int (bI b3))
  have hbf : gBo [.lst (dv [true, true, true, true]), .int 2] = some (.dct k4 (dv [true, true, true, true])) := bo2 (.int 1) (.int 1) (.int 1) (.int 1)
  have htd : D.dct t4 [.int (1 - bI b0), .int (1 - bI b1), .int (1 - bI b2), .int (1 - bI b3)] = .dct t4 (dv [!b0, !b1, !b2, !b3]) := by simp only [bI_not]; rfl
  refine board_fin (qA_ok t (by decide) (by decide) hb) t.r1 t.r0 (run_ok (fA := gA) (fB := gBo) (fI := gI) (fD := gD) (x := nOf [b0, b1, b2, b3]) (z := 2) (fg := .lst (dv [b0, b1, b2, b3])) (td := .dct t4 (dv [!b0, !b1, !b2, !b3])) (u := .dct k4 (dv [true, true, true, true])) (ks := k4) (vs := dv [b0, b1, b2, b3]) (a := w1 [b0, b1, b2, b3]) (b := w0 [b0, b1, b2, b3]) (by decide) (by decide) hw ?_ (fun c mo => (tu2 gA gBo gI gD _ _ _ (bI b0) (bI b1) (bI b2) (bI b3) _ _ c mo).trans (congrArg some htd)) ht1 ht0 (fun c mo => (fu2 gA gBo gI gD _ _ _ _ _ _ c mo).trans hbf) hu1 hu0)
  intro c hc
  simp only [k4, List.mem_cons, List.not_mem_nil, or_false] at hc
  rcases hc with rfl | rfl | rfl | rfl
  · exact CellOk.intro (v := bI b0) rfl (fun mo => mr2_0 gA gBo gI gD _ _ _ (.int (bI b0)) (.int (bI b1)) (.int (bI b2)) (.int (bI b3)) _ _ mo) (TT true b1 b2 b3).r1 (TT true b1 b2 b3).r0 (fun h => plain_step t.pl (i := 0) (show 0 < 4 by decide) (bI_0 h))
  · exact CellOk.intro (v := bI b1) rfl (fun mo => mr2_1 gA gBo gI gD _ _ _ (.int (bI b0)) (.int (bI b1)) (.int (bI b2)) (.int (bI b3)) _ _ mo) (TT b0 true b2 b3).r1 (TT b0 true b2 b3).r0 (fun h => plain_step t.pl (i := 1) (show 1 < 4 by decide) (bI_0 h))
  · exact CellOk.intro (v := bI b2) rfl (fun mo => mr2_2 gA gBo gI gD _ _ _ (.int (bI b0)) (.int (bI b1)) (.int (bI b2)) (.int (bI b3)) _ _ mo) (TT b0 b1 true b3).r1 (TT b0 b1 true b3).r0 (fun h => plain_step t.pl (i := 2) (show 2 < 4 by decide) (bI_0 h))
  · exact CellOk.intro (v := bI b3) rfl (fun mo => mr2_3 gA gBo gI gD _ _ _ (.int (bI b0)) (.int (bI b1)) (.int (bI b2)) (.int (bI b3)) _ _ mo) (TT b0 b1 b2 true).r1 (TT b0 b1 b2 true).r0 (fun h => plain_step t.pl (i := 3) (show 3 < 4 by decide) (bI_0 h))
theorem board1 {w1 w0 t1 t0 : List Bool → Bool} (TT : ∀ b0 : Bool, Told 1 1 k1 Mine.t1 w1 w0 t1 t0 [b0]) (hf1 : w1 [true] = true) (hf0 : w0 [true] = false) (b0 : Bool) : Board 1 (nOf [b0]) := by
  have t : Told 1 1 k1 Mine.t1 w1 w0 t1 t0 [b0] := TT b0
  have tf : Told 1 1 k1 Mine.t1 w1 w0 t1 t0 [true] := TT true
  have tt : Told 1 1 k1 Mine.t1 w1 w0 t1 t0 [!b0] := TT (!b0)
  have hw : (w1 [b0] != w0 [b0]) = true := plain_ne t.pl
  have ht1 : gA [.dct Mine.t1 (dv [!b0]), .int 1, .int 1] = some (.bool (w0 [b0])) := by rw [← plain_t1 t.pl]; exact tt.s1
  have ht0 : gA [.dct Mine.t1 (dv [!b0]), .int 1, .int 0] = some (.bool (w1 [b0])) := by rw [← plain_t0 t.pl]; exact tt.s0
  have hu1 : gA [.dct k1 (dv [true]), .int 1, .int 1] = some (.bool true) := tf.r1.trans (by rw [hf1])
  have hu0 : gA [.dct k1 (dv [true]), .int 1, .int 0] = some (.bool false) := tf.r0.trans (by rw [hf0])
  have hb : gBo [.lst (dv [b0]), .int 1] = some (.dct k1 (dv [b0])) := bo1 (.int (bI b0))
  have hbf : gBo [.lst (dv [true]), .int 1] = some (.dct k1 (dv [true])) := bo1 (.int 1)
  have htd : D.dct Mine.t1 [.int (1 - bI b0)] = .dct Mine.t1 (dv [!b0]) := by simp only [bI_not]; rfl
  refine board_fin (qA_ok t (by decide) (by decide) hb) t.r1 t.r0 (run_ok (fA := gA) (fB := gBo) (fI := gI) (fD := gD) (x := nOf [b0]) (z := 1) (fg := .lst (dv [b0])) (td := .dct Mine.t1 (dv [!b0])) (u := .dct k1 (dv [true])) (ks := k1) (vs := dv [b0]) (a := w1 [b0]) (b := w0 [b0]) (by decide) (by decide) hw ?_ (fun c mo => (tu1 gA gBo gI gD _ _ _ (bI b0) _ _ c mo).trans (congrArg some htd)) ht1 ht0 (fun c mo => (fu1 gA gBo gI gD _ _ _ _ _ _ c mo).trans hbf) hu1 hu0)
  intro c hc
  simp only [k1, List.mem_cons, List.not_mem_nil, or_false] at hc
  subst hc
  · exact CellOk.intro (v := bI b0) rfl (fun mo => mr1_0 gA gBo gI gD _ _ _ (.int (bI b0)) _ _ mo) (TT true).r1 (TT true).r0 (fun h => plain_step t.pl (i := 0) (show 0 < 1 by decide) (bI_0 h))
/-- a number's figures by two -/
noncomputable def bitsB : Nat → Nat → List Bool
  | _, 0 => []
  | m, k + 1 => decide (m % 2 = 1) :: bitsB (m / 2) k
theorem bitsB_len : ∀ (k m : Nat), (bitsB m k).length = k
  | 0, _ => rfl
  | k + 1, m => by rw [bitsB, List.length_cons, bitsB_len k]
theorem nOf_bits : ∀ (k m : Nat), m < 2 ^ k → nOf (bitsB m k) = m
  | 0, m, h => by simp at h; subst h; rfl
  | k + 1, m, h => by
    rw [Nat.pow_succ] at h
    rw [bitsB, nOf, nOf_bits k (m / 2) (by omega)]
    by_cases q : m % 2 = 1
    · simp [q]; omega
    · simp [q]; omega
theorem plain1 : Plain1 := by
  intro z x h1 h2 h3 h4
  have hz : z = 1 ∨ z = 2 ∨ z = 3 := by omega
  obtain ⟨m, rfl⟩ : ∃ m : Nat, x = m := ⟨x.toNat, by omega⟩
  rcases hz with rfl | rfl | rfl
  · have hm : m < 2 ^ 1 := by have : ((1 : Int) * 1) = 1 := rfl; exact Int.ofNat_lt.mp h4
    rw [← nOf_bits 1 m hm]
    exact board1 (fun b0 => chk_ok (by decide) (ck1 b0)) (by decide +kernel) (by decide +kernel) _
  · have hm : m < 2 ^ 4 := by have : ((1 : Int) * 1) = 1 := rfl; exact Int.ofNat_lt.mp h4
    rw [← nOf_bits 4 m hm]
    exact board2 (fun b0 b1 b2 b3 => chk_ok (by decide) (ck2 b0 b1 b2 b3)) (by decide +kernel) (by decide +kernel) _ _ _ _
  · have hm : m < 2 ^ 9 := by have : ((1 : Int) * 1) = 1 := rfl; exact Int.ofNat_lt.mp h4
    rw [← nOf_bits 9 m hm]
    exact board3 (fun b0 b1 b2 b3 b4 b5 b6 b7 b8 => chk_ok (by decide) (ck3 b0 b1 b2 b3 b4 b5 b6 b7 b8)) (by decide +kernel) (by decide +kernel) _ _ _ _ _ _ _ _ _
end Mine
open PySem PySem.W PyProof.Rows
set_option Elab.async false
set_option maxRecDepth 100000 in
set_option maxHeartbeats 8000000 in
theorem Mine.glue1 (pl : Mine.Plain1) : PySem.Challenge.rw_gg0004_01.Holds :=
  Mine.hd (by
    k_go0
    rename Top topProg _ _ _ _ _ => topX
    rename Frag.In _ _ => inX
    rename CodeHd _ (27, 23).1 _ => codeB
    rename CodeHd _ (20, 16).1 _ => codeA
    rename Fr _ _ _ _ => frX
    rename IntsAre _ _ => intX
    rename News _ _ _ _ => newsX
    rename Heap.IsList (ghostOf _ _) _ _ => listX
    rename _ = #[] => gensX
    exact Mine.walk1 ⟨inX, topX, codeA, codeB, (newsX _ (List.mem_cons_of_mem _ List.mem_cons_self)).2.2, (newsX _ List.mem_cons_self).2.2⟩ pl Mine.aok0 frX rfl (fun p hp => newsX p (List.mem_cons.mpr ((List.mem_cons.mp hp).elim (fun e => .inr (List.mem_singleton.mpr e)) (fun e => .inl (List.mem_singleton.mp e))))) listX intX (by first | assumption | omega) fun h' tk H => (by refine Mine.good1 ?_ H _ ?_ ?_ ?_ <;> first | exact gensX | rfl))
theorem PySem.Challenge.cw_gg0004_01_holds : PySem.Challenge.rw_gg0004_01.Holds :=
  Mine.glue1 Mine.plain1
