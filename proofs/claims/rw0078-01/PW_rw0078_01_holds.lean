import PyProof.Rows.All
import Wide.All
import OpenK.AllK
import Wide.FinOn
import PySem.Challenge.RW_rw0078_01

set_option Elab.async false
set_option linter.unusedVariables false
set_option linter.unusedSimpArgs false
set_option maxRecDepth 100000

/-! part M1 -/
section
open PySem PySem.W PyProof.Rows
namespace Mine

/-! ## values, frozen maps, representation -/
noncomputable abbrev FH := Addr → Option Obj
noncomputable def Le (f g : FH) : Prop := ∀ a o, f a = some o → g a = some o
theorem Le.refl (f : FH) : Le f f := fun _ _ h => h
theorem Le.trans {f g k : FH} (h : Le f g) (h' : Le g k) : Le f k := fun a o e => h' a o (h a o e)

inductive V where
  | none
  | bool (b : Bool)
  | int (i : Int)
  | str (s : Str)
  | list (xs : List V)
  | tuple (xs : List V)
  | dict (kvs : List (Int × V))
  | range (a b c : Int)
  | slice (lo hi st : Option Int)
  | ty (T : String)
  | obj (a : Addr)

noncomputable def lobj (vs : List Value) (n : Nat) : Obj := { cls := .type "list", data := .seq vs.toArray n }
noncomputable def tobj (vs : List Value) (n : Nat) : Obj := { cls := .type "tuple", data := .seq vs.toArray n }
noncomputable def dobj (es : List DictEntry) (n : Nat) : Obj := { cls := .type "dict", data := .dict es.toArray n }

mutual
inductive Rep (f : FH) : V → Value → Prop
  | none : Rep f .none .none
  | bool (b : Bool) : Rep f (.bool b) (.bool b)
  | int (i : Int) (t : Tok) : Rep f (.int i) (.int i t)
  | str (s : Str) (t : Tok) : Rep f (.str s) (.str s t)
  | list {a : Addr} {xs : List V} {vs : List Value} {n : Nat} : f a = some (lobj vs n) → Reps f xs vs → Rep f (.list xs) (.ref a)
  | tuple {a : Addr} {xs : List V} {vs : List Value} {n : Nat} : f a = some (tobj vs n) → Reps f xs vs → Rep f (.tuple xs) (.ref a)
  | dict {a : Addr} {kvs : List (Int × V)} {es : List DictEntry} {n : Nat} : (a == sysModules) = false → f a = some (dobj es n) → RepD f kvs es → (kvs.map (·.1)).Nodup → Rep f (.dict kvs) (.ref a)
  | range {a b c : Int} {t u v : Tok} {r : Addr} : f r = some { cls := .type "range", data := .fields #[.int a t, .int b u, .int c v] } → Rep f (.range a b c) (.ref r)
  | slice {l u st : Option Int} {vl vu vs : Value} {r : Addr} : f r = some { cls := .type "slice", data := .fields #[vl, vu, vs] } → IsPart vl l → IsPart vu u → IsPart vs st → Rep f (.slice l u st) (.ref r)
  | ty (T : String) : Rep f (.ty T) (.type T)
  | obj (a : Addr) : Rep f (.obj a) (.ref a)
inductive Reps (f : FH) : List V → List Value → Prop
  | nil : Reps f [] []
  | cons {v : V} {x : Value} {vs : List V} {xs : List Value} : Rep f v x → Reps f vs xs → Reps f (v :: vs) (x :: xs)
inductive RepD (f : FH) : List (Int × V) → List DictEntry → Prop
  | nil : RepD f [] []
  | cons {k : Int} {v : V} {x : Value} {t : Tok} {kvs : List (Int × V)} {es : List DictEntry} : Rep f v x → RepD f kvs es → RepD f ((k, v) :: kvs) (⟨hashInt k, .int k t, x⟩ :: es)
end

theorem Rep.mono {f g : FH} (h : Le f g) {v : V} {x : Value} (r : Rep f v x) : Rep g v x :=
  Rep.rec (motive_1 := fun v x _ => Rep g v x) (motive_2 := fun v x _ => Reps g v x) (motive_3 := fun v x _ => RepD g v x)
    .none (fun b => .bool b) (fun i t => .int i t) (fun s t => .str s t) (fun e _ r => .list (h _ _ e) r) (fun e _ r => .tuple (h _ _ e) r) (fun m e _ n r => .dict m (h _ _ e) r n) (fun e => .range (h _ _ e)) (fun e a b c => .slice (h _ _ e) a b c) (fun T => .ty T) (fun a => .obj a)
    .nil (fun _ _ a b => .cons a b) .nil (fun _ _ a b => .cons a b) r
theorem Reps.mono {f g : FH} (h : Le f g) {v : List V} {x : List Value} (r : Reps f v x) : Reps g v x :=
  Reps.rec (motive_1 := fun _ _ _ => True) (motive_2 := fun v x _ => Reps g v x) (motive_3 := fun _ _ _ => True)
    trivial (fun _ => trivial) (fun _ _ => trivial) (fun _ _ => trivial) (fun _ _ _ => trivial) (fun _ _ _ => trivial) (fun _ _ _ _ _ => trivial) (fun _ => trivial) (fun _ _ _ _ => trivial) (fun _ => trivial) (fun _ => trivial)
    .nil (fun a _ _ b => .cons (Rep.mono h a) b) trivial (fun _ _ _ _ => trivial) r
theorem RepD.mono {f g : FH} (h : Le f g) {v : List (Int × V)} {x : List DictEntry} (r : RepD f v x) : RepD g v x :=
  RepD.rec (motive_1 := fun _ _ _ => True) (motive_2 := fun _ _ _ => True) (motive_3 := fun v x _ => RepD g v x)
    trivial (fun _ => trivial) (fun _ _ => trivial) (fun _ _ => trivial) (fun _ _ _ => trivial) (fun _ _ _ => trivial) (fun _ _ _ _ _ => trivial) (fun _ => trivial) (fun _ _ _ _ => trivial) (fun _ => trivial) (fun _ => trivial)
    trivial (fun _ _ _ _ => trivial) .nil (fun a _ _ b => .cons (Rep.mono h a) b) r

theorem Rep.int_inv {f : FH} {i : Int} {x : Value} (h : Rep f (.int i) x) : ∃ t, x = .int i t := by cases h; exact ⟨_, rfl⟩
theorem Rep.str_inv {f : FH} {i : Str} {x : Value} (h : Rep f (.str i) x) : ∃ t, x = .str i t := by cases h; exact ⟨_, rfl⟩
theorem Rep.bool_inv {f : FH} {i : Bool} {x : Value} (h : Rep f (.bool i) x) : x = .bool i := by cases h; rfl
theorem Rep.none_inv {f : FH} {x : Value} (h : Rep f .none x) : x = .none := by cases h; rfl
theorem Rep.list_inv {f : FH} {xs : List V} {x : Value} (h : Rep f (.list xs) x) : ∃ a vs n, x = .ref a ∧ f a = some (lobj vs n) ∧ Reps f xs vs := by cases h; exact ⟨_, _, _, rfl, ‹_›, ‹_›⟩
theorem Rep.tuple_inv {f : FH} {xs : List V} {x : Value} (h : Rep f (.tuple xs) x) : ∃ a vs n, x = .ref a ∧ f a = some (tobj vs n) ∧ Reps f xs vs := by cases h; exact ⟨_, _, _, rfl, ‹_›, ‹_›⟩
theorem Rep.dict_inv {f : FH} {xs : List (Int × V)} {x : Value} (h : Rep f (.dict xs) x) : ∃ a es n, x = .ref a ∧ (a == sysModules) = false ∧ f a = some (dobj es n) ∧ RepD f xs es ∧ (xs.map (·.1)).Nodup := by cases h; exact ⟨_, _, _, rfl, ‹_›, ‹_›, ‹_›, ‹_›⟩
theorem Rep.range_inv {f : FH} {a b c : Int} {x : Value} (h : Rep f (.range a b c) x) : ∃ r t u v, x = .ref r ∧ f r = some { cls := .type "range", data := .fields #[.int a t, .int b u, .int c v] } := by cases h; exact ⟨_, _, _, _, rfl, ‹_›⟩
theorem Reps.length {f : FH} : ∀ {vs : List V} {xs : List Value}, Reps f vs xs → xs.length = vs.length
  | _, _, .nil => rfl
  | _, _, .cons _ b => by simp [Reps.length b]
theorem Reps.get {f : FH} : ∀ {vs : List V} {xs : List Value}, Reps f vs xs → ∀ {i : Nat} {v : V}, vs[i]? = some v → ∃ x, xs[i]? = some x ∧ Rep f v x
  | _, _, .nil, i, v, h => by simp at h
  | _, _, .cons a b, 0, v, h => by simp at h; subst h; exact ⟨_, rfl, a⟩
  | _, _, .cons a b, i + 1, v, h => by simp at h; obtain ⟨x, h1, h2⟩ := Reps.get b h; exact ⟨x, by simpa using h1, h2⟩
theorem Reps.get' {f : FH} : ∀ {vs : List V} {xs : List Value}, Reps f vs xs → ∀ {i : Nat} {x : Value}, xs[i]? = some x → ∃ v, vs[i]? = some v ∧ Rep f v x
  | _, _, .nil, i, v, h => by simp at h
  | _, _, .cons a b, 0, v, h => by simp at h; subst h; exact ⟨_, rfl, a⟩
  | _, _, .cons a b, i + 1, v, h => by simp at h; obtain ⟨x, h1, h2⟩ := Reps.get' b h; exact ⟨x, by simpa using h1, h2⟩
theorem Reps.append {f : FH} : ∀ {vs ws : List V} {xs ys : List Value}, Reps f vs xs → Reps f ws ys → Reps f (vs ++ ws) (xs ++ ys)
  | _, _, _, _, .nil, h => h
  | _, _, _, _, .cons a b, h => .cons a (Reps.append b h)
theorem Reps.one_inv {f : FH} {v : V} {xs : List Value} (h : Reps f [v] xs) : ∃ x, xs = [x] ∧ Rep f v x := by
  cases h with | cons a b => cases b; exact ⟨_, rfl, a⟩
theorem Reps.two_inv {f : FH} {v w : V} {xs : List Value} (h : Reps f [v, w] xs) : ∃ x y, xs = [x, y] ∧ Rep f v x ∧ Rep f w y := by
  cases h with | cons a b => obtain ⟨y, rfl, hy⟩ := b.one_inv; exact ⟨_, _, rfl, a, hy⟩
theorem Reps.three_inv {f : FH} {v w u : V} {xs : List Value} (h : Reps f [v, w, u] xs) : ∃ x y z, xs = [x, y, z] ∧ Rep f v x ∧ Rep f w y ∧ Rep f u z := by
  cases h with | cons a b => obtain ⟨y, z, rfl, hy, hz⟩ := b.two_inv; exact ⟨_, _, _, rfl, a, hy, hz⟩
theorem Reps.one {f : FH} {v : V} {x : Value} (h : Rep f v x) : Reps f [v] [x] := .cons h .nil
theorem Reps.set {f : FH} : ∀ {vs : List V} {xs : List Value}, Reps f vs xs → ∀ {i : Nat} {v : V} {x : Value}, Rep f v x → Reps f (vs.set i v) (xs.set i x)
  | _, _, .nil, i, v, x, h => by simpa using Reps.nil
  | _, _, .cons a b, 0, v, x, h => by simpa using Reps.cons h b
  | _, _, .cons a b, i + 1, v, x, h => by simpa using Reps.cons a (Reps.set b h)
theorem Reps.reverse {f : FH} : ∀ {vs : List V} {xs : List Value}, Reps f vs xs → Reps f vs.reverse xs.reverse
  | _, _, .nil => .nil
  | _, _, .cons a b => by simpa using Reps.append (Reps.reverse b) (Reps.one a)

/-! ## the world, room -/

structure Room (n : Nat) (A : Around) : Prop where
  handled : A.handled = none
  depth : A.depth + n < 900
  units : A.units + 8 * n < 9000
theorem Room.mono {n m : Nat} {A : Around} (h : Room n A) (hm : m ≤ n) : Room m A := ⟨h.handled, by have := h.depth; omega, by have := h.units; omega⟩
theorem Room.deeper {n : Nat} {A : Around} (env : Env) (h : Room (n + 1) A) : Room n (A.deeper env) :=
  ⟨h.handled, by have := h.depth; show A.depth + 1 + n < 900; omega, by have := h.units; show A.units + 3 + 8 * n < 9000; omega⟩
theorem Room.lim {n : Nat} {A : Around} (h : Room n A) : A.depth < recursionLimit := by have := h.depth; unfold recursionLimit; omega
theorem Room.cl {n : Nat} {A : Around} (h : Room n A) : A.units + 300 < cLine := by have := h.units; unfold cLine; omega

/-! ## the tables of nested code: they may grow -/
noncomputable def IsTab (o : Obj) : Prop := ∃ ps, o = tabObj ps ∧ TriplesOk ps.toList
theorem notTab_l {vs : List Value} {n : Nat} : ¬ IsTab (lobj vs n) := fun ⟨ps, e, _⟩ => by simp [lobj] at e
theorem notTab_d {vs : List DictEntry} {n : Nat} : ¬ IsTab (dobj vs n) := fun ⟨ps, e, _⟩ => by simp [dobj] at e
theorem notTab_c {o : Obj} {vs : Array Value} {q : Str} {t : Tok} (h : o.data = .fields vs) (hv : vs[1]? = some (.str q t)) : ¬ IsTab o := fun ⟨ps, e, ht⟩ => by
  subst e; cases h
  exact triples_no_str ht q t (by simpa using hv)
noncomputable def Ext (h h' : Heap) : Prop := ∀ a o, h.get? a = some o → ¬ IsTab o → h'.get? a = some o
theorem Ns.keepsT {h h' : Heap} {a : Addr} {m : Str → Option Value} (x : h.Ns a m) (e : Ext h h') : h'.Ns a m := by
  obtain ⟨o, es, ep, ho, hd, r⟩ := x
  exact ⟨o, es, ep, e _ _ ho (fun ⟨ps, q, _⟩ => by subst q; cases hd), hd, r⟩
theorem IsCell.keepsT {h h' : Heap} {a : Addr} {v : Option Value} (x : h.IsCell a v) (e : Ext h h') : h'.IsCell a v := by
  obtain ⟨o, ho, hd⟩ := x
  exact ⟨o, e _ _ ho (fun ⟨ps, q, _⟩ => by subst q; cases hd), hd⟩
theorem CodeRec.keepsT {h h' : Heap} {cd : Value} {q : Str} (x : h.CodeRec cd q) (e : Ext h h') : h'.CodeRec cd q := by
  obtain ⟨c, o, vs, t, h1, h2, h3, h4⟩ := x
  exact ⟨c, o, vs, t, h1, e _ _ h2 (notTab_c h3 h4), h3, h4⟩
/-- a table's rows: each a code record of the name q -/
noncomputable def Good (q : Str) (h : Heap) (ps : Array Value) : Prop := TriplesOk ps.toList ∧ ∀ pos cv, codeAmong pos ps.toList = some cv → h.CodeRec cv q
theorem Good.keeps {q : Str} {h h' : Heap} {ps : Array Value} (x : Good q h ps) (e : Ext h h') : Good q h' ps := ⟨x.1, fun pos cv hc => CodeRec.keepsT (x.2 pos cv hc) e⟩
noncomputable def Tab (q : Str) (h : Heap) (a : Addr) : Prop := ∃ ps, h.get? a = some (tabObj ps) ∧ Good q h ps

/-! ## the world -/
structure Wd where
  prog : Program
  w : World
  base : Heap
  mg : Str → Option Value
  mb : Str → Option Value
  g : base.Ns mainGlobals mg
  b : base.Ns builtinsNs mb
  nolimit : base.NoLimit
  nodigits : ∃ mc, base.Ns cStatics mc ∧ mc "sys.int_max_str_digits" = Option.none
  boot : ∀ x : Str, x ≠ "__name__" → mb x = bootBuiltins x
  tabs : List (Addr × Addr × Str)
  code : ∀ q ∈ tabs, CodeHd base q.1 q.2.1
  uniq : ∀ q ∈ tabs, ∀ r ∈ tabs, q.2.1 = r.2.1 → q.2.2 = r.2.2
  bmain : ∃ bm ob, mg "__builtins__" = some (.ref bm) ∧ bm ≠ builtinsNs ∧ base.get? bm = some ob ∧ ob.cls = .type "module" ∧ ob.dict = some builtinsNs ∧ ob.data = .plain
noncomputable abbrev Wd.M (W : Wd) : Model := model W.prog W.w
variable {W : Wd}
/-! ## growth -/
structure Ok (W : Wd) (f f' : FH) (h h' : Heap) : Prop where
  ext : Ext h h'
  tab : ∀ a o, h.get? a = some o → IsTab o → ∃ o', h'.get? a = some o' ∧ IsTab o'
  tabs : (∀ q ∈ W.tabs, Tab q.2.2 h q.2.1) → ∀ q ∈ W.tabs, Tab q.2.2 h' q.2.1
  le : Le f f'
  sub : ∀ a o, f' a = some o → h'.get? a = some o
  new : ∀ a o, f' a = some o → f a = some o ∨ h.get? a = none
theorem Ok.there {f f' : FH} {h h' : Heap} (k : Ok W f f' h h') {a : Addr} {o : Obj} (e : h.get? a = some o) : ∃ o', h'.get? a = some o' := by
  by_cases c : IsTab o
  · obtain ⟨o', h1, _⟩ := k.tab a o e c; exact ⟨o', h1⟩
  · exact ⟨o, k.ext a o e c⟩
theorem Ok.gone {f f' : FH} {h h' : Heap} (k : Ok W f f' h h') {a : Addr} (e : h'.get? a = none) : h.get? a = none := by
  cases q : h.get? a with
  | none => rfl
  | some o => obtain ⟨o', h1⟩ := k.there q; rw [h1] at e; cases e
theorem Tab.keeps {k : Str} {h h' : Heap} {a : Addr} (x : Tab k h a) (e : ∀ a o, h.get? a = some o → h'.get? a = some o) : Tab k h' a := let ⟨ps, h1, h2⟩ := x; ⟨ps, e _ _ h1, h2.keeps fun a o q _ => e a o q⟩
theorem Ok.heap {f : FH} {h h' : Heap} (hs : ∀ a o, f a = some o → h.get? a = some o) (e : ∀ a o, h.get? a = some o → h'.get? a = some o) : Ok W f f h h' :=
  ⟨fun a o q _ => e a o q, fun a o q t => ⟨o, e a o q, t⟩, fun x q hq => (x q hq).keeps e, Le.refl _, fun a o x => e a o (hs a o x), fun _ _ x => .inl x⟩
theorem Ok.refl {f : FH} {h : Heap} (hs : ∀ a o, f a = some o → h.get? a = some o) : Ok W f f h h := Ok.heap hs fun _ _ e => e
theorem Ok.trans {f f' f'' : FH} {h h' h'' : Heap} (x : Ok W f f' h h') (y : Ok W f' f'' h' h'') : Ok W f f'' h h'' where
  ext := fun a o e t => y.ext a o (x.ext a o e t) t
  tab := fun a o e t => by
    obtain ⟨o', h1, h2⟩ := x.tab a o e t
    exact y.tab a o' h1 h2
  tabs := fun q => y.tabs (x.tabs q)
  le := x.le.trans y.le
  sub := y.sub
  new := fun a o e => by
    rcases y.new a o e with h1 | h1
    · exact x.new a o h1
    · exact .inr (x.gone h1)
noncomputable def fz (f : FH) (a : Addr) (o : Obj) : FH := fun b => if b = a then some o else f b
theorem fz_le {f : FH} {a : Addr} {o : Obj} (h : f a = none) : Le f (fz f a o) := fun b o' e => by
  unfold fz; split
  · rename_i q; subst q; rw [h] at e; cases e
  · exact e
theorem fz_self {f : FH} {a : Addr} {o : Obj} : fz f a o a = some o := by simp [fz]
theorem Ok.freeze {f f' : FH} {h h' : Heap} {a : Addr} {o : Obj} (x : Ok W f f' h h') (hn : h.get? a = none) (hf : f' a = none) (ho : h'.get? a = some o) : Ok W f (fz f' a o) h h' where
  ext := x.ext
  tab := x.tab
  tabs := x.tabs
  le := x.le.trans (fz_le hf)
  sub := fun b o' e => by
    unfold fz at e; split at e
    · rename_i q; subst q; cases e; exact ho
    · exact x.sub b o' e
  new := fun b o' e => by
    unfold fz at e; split at e
    · rename_i q; subst q; exact .inr hn
    · exact x.new b o' e

/-! ## bindings, frames -/
inductive Bd where
  | unb
  | imm (v : V)
  | mutL (xs : List V)
  | mutD (kvs : List (Int × V))

noncomputable def BdOk (L : Addr) (P f : FH) (h : Heap) (o : Option Value) : Bd → Prop
  | .unb => o = none
  | .imm v => ∃ x, o = some x ∧ Rep f v x
  | .mutL xs => ∃ a vs n, o = some (.ref a) ∧ h.get? a = some (lobj vs n) ∧ Reps f xs vs ∧ f a = none ∧ P a = none
  | .mutD kvs => ∃ a es n, o = some (.ref a) ∧ (a == sysModules) = false ∧ h.get? a = some (dobj es n) ∧ RepD f kvs es ∧ (kvs.map (·.1)).Nodup ∧ f a = none ∧ P a = none ∧ a ≠ L

noncomputable def Look (env : Env) (h : Heap) (x : Str) (o : Option Value) : Prop :=
  (env.kindOf x = some .local ∧ ∃ m, h.Ns env.locals m ∧ m x = o) ∨
  ((env.kindOf x = some .cell ∨ env.kindOf x = some .free) ∧ ∃ c, env.cells.lookup x = some c ∧ h.IsCell c o)

noncomputable def vnames (sc : Scope) : List Str := (sc.names.filter fun x => (x.2 == .local || x.2 == .cell || x.2 == .free) && x.1 != (".0" : Str)).map (·.1)

noncomputable def Vars (P f : FH) (env : Env) (ρ : List Bd) (h : Heap) : Prop :=
  ∀ (i : Nat) (b : Bd), ρ[i]? = some b → ∃ x o, (vnames env.scope)[i]? = some x ∧ Look env h x o ∧ BdOk env.locals P f h o b

structure EnvOk (env : Env) (sc : Scope) : Prop where
  scope : env.scope = sc
  kind : sc.kind = .function
  globals : env.globals = mainGlobals
  builtins : env.builtins = builtinsNs
  nodup : (vnames sc).Nodup
  plain : ∀ x ∈ vnames sc, (x == ("__debug__" : Str)) = false ∧ (x == ("__classdict__" : Str)) = false

structure Bs (W : Wd) (f : FH) (h : Heap) : Prop where
  le : Le W.base.get? f
  tf : ∀ q ∈ W.tabs, f q.2.1 = none
  tabs : ∀ q ∈ W.tabs, Tab q.2.2 h q.2.1
theorem Bs.step {f f' : FH} {h h' : Heap} (b : Bs W f h) (k : Ok W f f' h h') : Bs W f' h' where
  le := b.le.trans k.le
  tf := fun q hq => by
    cases e : f' q.2.1 with
    | none => rfl
    | some o =>
      rcases k.new _ _ e with e' | e'
      · rw [b.tf q hq] at e'; cases e'
      · obtain ⟨ps, h1, _⟩ := b.tabs q hq; rw [h1] at e'; cases e'
  tabs := k.tabs b.tabs
structure Pre (W : Wd) (n : Nat) (sc : Scope) (ρ : List Bd) (env : Env) (A : Around) (P f : FH) (h : Heap) : Prop where
  eok : EnvOk env sc
  room : Room n A
  base : Bs W f h
  sub : ∀ a o, f a = some o → h.get? a = some o
  vars : Vars P f env ρ h

theorem Look.ext {env : Env} {h h' : Heap} {x : Str} {o : Option Value} (hl : Look env h x o) (e : Ext h h') : Look env h' x o := by
  rcases hl with ⟨k, m, hn, hm⟩ | ⟨k, c, hc, hv⟩
  · exact .inl ⟨k, m, Ns.keepsT hn e, hm⟩
  · exact .inr ⟨k, c, hc, IsCell.keepsT hv e⟩
theorem BdOk.step {L : Addr} {P f f' : FH} {h h' : Heap} {o : Option Value} {b : Bd} (x : BdOk L P f h o b) (k : Ok W f f' h h') : BdOk L P f' h' o b := by
  cases b with
  | unb => exact x
  | imm v => obtain ⟨y, e, r⟩ := x; exact ⟨y, e, r.mono k.le⟩
  | mutL xs =>
    obtain ⟨a, vs, n, e, ho, r, hf, hP⟩ := x
    refine ⟨a, vs, n, e, k.ext _ _ ho notTab_l, r.mono k.le, ?_, hP⟩
    cases hq : f' a with
    | none => rfl
    | some o' => rcases k.new a o' hq with q | q
                 · rw [hf] at q; cases q
                 · rw [ho] at q; cases q
  | mutD xs =>
    obtain ⟨a, vs, n, e, hm, ho, r, hd, hf, hP⟩ := x
    refine ⟨a, vs, n, e, hm, k.ext _ _ ho notTab_d, r.mono k.le, hd, ?_, hP⟩
    cases hq : f' a with
    | none => rfl
    | some o' => rcases k.new a o' hq with q | q
                 · rw [hf] at q; cases q
                 · rw [ho] at q; cases q
theorem Vars.step {P f f' : FH} {env : Env} {ρ : List Bd} {h h' : Heap} (x : Vars P f env ρ h) (k : Ok W f f' h h') : Vars P f' env ρ h' := fun i b e => by
  obtain ⟨y, o, h1, h2, h3⟩ := x i b e
  exact ⟨y, o, h1, h2.ext k.ext, h3.step k⟩
theorem Pre.step {W : Wd} {n : Nat} {sc : Scope} {ρ : List Bd} {env : Env} {A : Around} {P f f' : FH} {h h' : Heap} (x : Pre W n sc ρ env A P f h) (k : Ok W f f' h h') : Pre W n sc ρ env A P f' h' :=
  ⟨x.eok, x.room, x.base.step k, k.sub, x.vars.step k⟩
theorem Pre.ok {W : Wd} {n : Nat} {sc : Scope} {ρ : List Bd} {env : Env} {A : Around} {P f : FH} {h : Heap} (x : Pre W n sc ρ env A P f h) : Ok W f f h h := Ok.refl x.sub
theorem Pre.bk {W : Wd} {n : Nat} {sc : Scope} {ρ : List Bd} {env : Env} {A : Around} {P f : FH} {h : Heap} (x : Pre W n sc ρ env A P f h) : ∀ a o, W.base.get? a = some o → h.get? a = some o := fun a o e => x.sub a o (x.base.le a o e)

/-! ## results and judgments -/
inductive RT where
  | val (v : V)
  | freshL (xs : List V)
  | freshD (kvs : List (Int × V))
noncomputable def RT.den (f : FH) (h : Heap) (f' : FH) (h' : Heap) (x : Value) : RT → Prop
  | .val v => Rep f' v x
  | .freshL xs => ∃ a vs n, x = .ref a ∧ h.get? a = none ∧ f' a = none ∧ h'.get? a = some (lobj vs n) ∧ Reps f' xs vs
  | .freshD kvs => ∃ a es n, x = .ref a ∧ (a == sysModules) = false ∧ h.get? a = none ∧ f' a = none ∧ h'.get? a = some (dobj es n) ∧ RepD f' kvs es ∧ (kvs.map (·.1)).Nodup
theorem RT.anti {f f₁ f' : FH} {h h₁ h' : Heap} {x : Value} {r : RT} (k : Ok W f f₁ h h₁) (d : r.den f₁ h₁ f' h' x) : r.den f h f' h' x := by
  have aux : ∀ a, h₁.get? a = none → h.get? a = none := fun a e => k.gone e
  cases r with
  | val v => exact d
  | freshL xs => obtain ⟨a, vs, n, e, h1, r⟩ := d; exact ⟨a, vs, n, e, aux a h1, r⟩
  | freshD xs => obtain ⟨a, vs, n, e, hm, h1, r⟩ := d; exact ⟨a, vs, n, e, hm, aux a h1, r⟩

/-- an expression (or tree) in a frame -/
noncomputable def JX {α : Type} (W : Wd) (n : Nat) (sc : Scope) (ρ : List Bd) (t : Env → Sem α) (R : FH → Heap → FH → Heap → α → Prop) : Prop :=
  ∀ env A P f s (Q : α → Shared → Prop) (E : Value → Shared → Prop), Pre W n sc ρ env A P f s.heap →
    (∀ x f' h' tk, Ok W f f' s.heap h' → R f s.heap f' h' x → Q x { s with heap := h', toks := tk }) → wpAny W.M A (t env) Q E s
noncomputable abbrev HE (W : Wd) (n : Nat) (sc : Scope) (ρ : List Bd) (e : Expr) (r : RT) : Prop := JX W n sc ρ (fun env => eval e env) (fun f h f' h' x => r.den f h f' h' x)
noncomputable abbrev HB (W : Wd) (n : Nat) (sc : Scope) (ρ : List Bd) (e : Expr) (b : Bool) : Prop := JX W n sc ρ (fun env => isTrue e env (eval e env)) (fun _ _ _ _ x => x = b)
noncomputable abbrev HA (W : Wd) (n : Nat) (sc : Scope) (ρ : List Bd) (pos : Pos) (es : List Expr) (vs : List V) : Prop := JX W n sc ρ (fun env => spliced (backTo pos (starEach es env))) (fun _ _ f' _ xs => Reps f' vs xs)
/-- an operation upon values, no frame -/
noncomputable def OpX {α : Type} (W : Wd) (n : Nat) (t : List Value → Sem α) (vs : List V) (R : FH → Heap → FH → Heap → α → Prop) : Prop :=
  ∀ A f s xs (Q : α → Shared → Prop) (E : Value → Shared → Prop), Room n A → Bs W f s.heap → (∀ a o, f a = some o → s.heap.get? a = some o) → Reps f vs xs →
    (∀ x f' h' tk, Ok W f f' s.heap h' → R f s.heap f' h' x → Q x { s with heap := h', toks := tk }) → wpAny W.M A (t xs) Q E s
noncomputable abbrev Op (W : Wd) (n : Nat) (t : List Value → Sem Value) (vs : List V) (r : RT) : Prop := OpX W n t vs (fun f h f' h' x => r.den f h f' h' x)

theorem RT.freezeL {f f' : FH} {h h' : Heap} {x : Value} {xs : List V} (k : Ok W f f' h h') (d : (RT.freshL xs).den f h f' h' x) : ∃ f'', Ok W f f'' h h' ∧ (RT.val (.list xs)).den f h f'' h' x := by
  obtain ⟨a, vs, n, rfl, h1, h2, h3, h4⟩ := d
  exact ⟨_, k.freeze h1 h2 h3, .list fz_self (h4.mono (fz_le h2))⟩
theorem RT.freezeD {f f' : FH} {h h' : Heap} {x : Value} {xs : List (Int × V)} (k : Ok W f f' h h') (d : (RT.freshD xs).den f h f' h' x) : ∃ f'', Ok W f f'' h h' ∧ (RT.val (.dict xs)).den f h f'' h' x := by
  obtain ⟨a, vs, n, rfl, hm, h1, h2, h3, h4, h5⟩ := d
  exact ⟨_, k.freeze h1 h2 h3, .dict hm fz_self (h4.mono (fz_le h2)) h5⟩
theorem HE.freezeL {W : Wd} {n : Nat} {sc : Scope} {ρ : List Bd} {e : Expr} {xs : List V} (h : HE W n sc ρ e (.freshL xs)) : HE W n sc ρ e (.val (.list xs)) := by
  intro env A P f s Q E p hQ
  refine h env A P f s Q E p fun x f' h' tk k d => ?_
  obtain ⟨f'', k', d'⟩ := RT.freezeL k d
  exact hQ x f'' h' tk k' d'
theorem HE.freezeD {W : Wd} {n : Nat} {sc : Scope} {ρ : List Bd} {e : Expr} {xs : List (Int × V)} (h : HE W n sc ρ e (.freshD xs)) : HE W n sc ρ e (.val (.dict xs)) := by
  intro env A P f s Q E p hQ
  refine h env A P f s Q E p fun x f' h' tk k d => ?_
  obtain ⟨f'', k', d'⟩ := RT.freezeD k d
  exact hQ x f'' h' tk k' d'
theorem Op.freezeL {W : Wd} {n : Nat} {t : List Value → Sem Value} {vs xs : List V} (h : Op W n t vs (.freshL xs)) : Op W n t vs (.val (.list xs)) := by
  intro A f s as Q E hr hb hs hv hQ
  refine h A f s as Q E hr hb hs hv fun x f' h' tk k d => ?_
  obtain ⟨f'', k', d'⟩ := RT.freezeL k d
  exact hQ x f'' h' tk k' d'
theorem HE.cast {W : Wd} {n : Nat} {sc : Scope} {ρ : List Bd} {e : Expr} {r r' : RT} (h : HE W n sc ρ e r) (q : r = r') : HE W n sc ρ e r' := q ▸ h
theorem HE.castV {W : Wd} {n : Nat} {sc : Scope} {ρ : List Bd} {e : Expr} {r r' : V} (h : HE W n sc ρ e (.val r)) (q : r = r') : HE W n sc ρ e (.val r') := q ▸ h
theorem HB.cast {W : Wd} {n : Nat} {sc : Scope} {ρ : List Bd} {e : Expr} {r r' : Bool} (h : HB W n sc ρ e r) (q : r = r') : HB W n sc ρ e r' := q ▸ h
end Mine
end

/-! part M2 -/
section
open PySem PySem.W PyProof.Rows
namespace Mine
variable {W : Wd} {n : Nat} {sc : Scope} {ρ : List Bd}

noncomputable def op1 {α : Type} (g : Value → Sem α) : List Value → Sem α := fun xs => match xs with | [x] => g x | _ => unsupported ""
noncomputable def op2 {α : Type} (g : Value → Value → Sem α) : List Value → Sem α := fun xs => match xs with | [x, y] => g x y | _ => unsupported ""
noncomputable abbrev OpB (W : Wd) (n : Nat) (t : List Value → Sem Bool) (vs : List V) (b : Bool) : Prop := OpX W n t vs (fun _ _ _ _ x => x = b)

/-! constants, names -/
theorem HE.int {i : Int} {k : Nat} {pos : Pos} : HE W n sc ρ (.Constant (.int i) k pos) (.val (.int i)) := by
  intro env A P f s Q E p hQ
  exact wpAny_Constant_int (hQ _ _ _ _ p.ok (.int _ _))
theorem HE.str {x : Str} {k : Nat} {pos : Pos} : HE W n sc ρ (.Constant (.str x) k pos) (.val (.str x)) := by
  intro env A P f s Q E p hQ
  exact PySem.Calls.Constant_str (hQ _ _ _ _ p.ok (.str _ _))
theorem HE.none {k : Nat} {pos : Pos} : HE W n sc ρ (.Constant .none k pos) (.val .none) := by
  intro env A P f s Q E p hQ
  exact Constant_none (hQ _ _ _ _ p.ok .none)

theorem look_load {env : Env} {A : Around} {s : Shared} {x : Str} {v : Value} {Q : Value → Shared → Prop} {E : Value → Shared → Prop}
    (he : EnvOk env sc) (hx : x ∈ vnames sc) (hl : Look env s.heap x (some v)) (h : Q v s) : wpAny W.M A (loadName env x) Q E s := by
  have hk : env.scope.kind = .function := by rw [he.scope]; exact he.kind
  rcases hl with ⟨k, m, hn, hm⟩ | ⟨k, c, hc, hv⟩
  · exact wpAny_loadName_local hk k hn hm h
  · rcases k with k | k
    · exact wpAny_loadName_cell hk k hc hv h
    · exact wpAny_loadName_free hk k hc hv h (he.plain x hx).2

theorem Pre.look {env : Env} {A : Around} {P f : FH} {h : Heap} {i : Nat} {x : Str} {b : Bd} (p : Pre W n sc ρ env A P f h) (hx : (vnames sc)[i]? = some x) (hv : ρ[i]? = some b) :
    ∃ o, Look env h x o ∧ BdOk env.locals P f h o b ∧ x ∈ vnames sc := by
  obtain ⟨y, o, h1, h2, h3⟩ := p.vars i b hv
  rw [p.eok.scope, hx] at h1
  cases h1
  exact ⟨o, h2, h3, List.mem_of_getElem? hx⟩

theorem HE.var (i : Nat) {x : Str} {pos : Pos} {v : V} (hx : (vnames sc)[i]? = some x) (hv : ρ[i]? = some (.imm v)) : HE W n sc ρ (.Name x pos) (.val v) := by
  intro env A P f s Q E p hQ
  obtain ⟨o, hl, ⟨y, rfl, hr⟩, hm⟩ := p.look hx hv
  exact wpAny_Name (look_load p.eok hm hl (hQ _ _ _ _ p.ok hr)) (p.eok.plain x hm).1

noncomputable def isG (sc : Scope) (x : Str) : Bool := sc.names.lookup x == some .globalImplicit && x != ("__debug__" : Str)
theorem isG_kind {x : Str} {env : Env} (he : EnvOk env sc) (h : isG sc x = true) : env.kindOf x = some .globalImplicit ∧ (x == ("__debug__" : Str)) = false := by
  unfold isG at h
  simp only [Bool.and_eq_true] at h
  refine ⟨?_, by simpa using h.2⟩
  show env.scope.names.lookup x = _
  rw [he.scope]
  have := h.1
  cases hq : sc.names.lookup x with
  | none => rw [hq] at this; cases this
  | some k => rw [hq] at this; cases k <;> first | rfl | cases this

/-- a global name that holds a value -/
theorem HX.glob {x : Str} {pos : Pos} {v : Value} (hg : isG sc x = true) (hv : W.mg x = some v) : JX W n sc ρ (fun env => eval (.Name x pos) env) (fun _ _ _ _ y => y = v) := by
  intro env A P f s Q E p hQ
  obtain ⟨h1, h2⟩ := isG_kind p.eok hg
  refine PySem.Calls.Name_function_global (by rw [p.eok.scope]; exact p.eok.kind) h1 (PySem.Calls.loadGlobal_global (mg := W.mg) ?_ hv (hQ _ _ _ _ p.ok rfl)) h2
  rw [p.eok.globals]; exact W.g.keeps p.bk
structure Bi (W : Wd) (x : Str) (v : Value) : Prop where
  free : W.mg x = Option.none
  boot : bootBuiltins x = some v
  ne : x ≠ "__name__"
theorem HX.boot {x : Str} {pos : Pos} {v : Value} (hg : isG sc x = true) (hb : Bi W x v) : JX W n sc ρ (fun env => eval (.Name x pos) env) (fun _ _ _ _ y => y = v) := by
  intro env A P f s Q E p hQ
  obtain ⟨h1, h2⟩ := isG_kind p.eok hg
  refine PySem.Calls.Name_function_global (by rw [p.eok.scope]; exact p.eok.kind) h1 (PySem.Calls.loadGlobal_builtin (mg := W.mg) (mb := W.mb) ?_ hb.free ?_ ((W.boot x hb.ne).trans hb.boot) (hQ _ _ _ _ p.ok rfl)) h2
  · rw [p.eok.globals]; exact W.g.keeps p.bk
  · rw [p.eok.builtins]; exact W.b.keeps p.bk
/-! operators -/
theorem HE.bin {l r : Expr} {op : Operator} {pos : Pos} {a b : V} {c : RT} (hl : HE W n sc ρ l (.val a)) (hr : HE W n sc ρ r (.val b)) (ho : Op W n (op2 (binaryOp op)) [a, b] c) :
    HE W n sc ρ (.BinOp l op r pos) c := by
  intro env A P f s Q E p hQ
  refine wpAny_BinOp (hl env A P f s _ E p fun x f₁ h₁ tk₁ k₁ r₁ => hr env A P f₁ { s with heap := h₁, toks := tk₁ } _ E (p.step k₁) fun y f₂ h₂ tk₂ k₂ r₂ => ?_)
  refine ho A f₂ { s with heap := h₂, toks := tk₂ } [x, y] Q E p.room ((p.step k₁).step k₂).base ((p.step k₁).step k₂).sub (.cons (Rep.mono k₂.le r₁) (.cons r₂ .nil)) fun z f₃ h₃ tk₃ k₃ r₃ => ?_
  exact hQ z f₃ h₃ tk₃ ((k₁.trans k₂).trans k₃) (RT.anti (k₁.trans k₂) r₃)
theorem HE.un {x : Expr} {op : UnaryOp} {pos : Pos} {a : V} {c : RT} (hl : HE W n sc ρ x (.val a)) (ho : Op W n (op1 (unaryOp op)) [a] c) :
    HE W n sc ρ (.UnaryOp op x pos) c := by
  intro env A P f s Q E p hQ
  refine UnaryOp_ (hl env A P f s _ E p fun x f₁ h₁ tk₁ k₁ r₁ => ?_)
  refine ho A f₁ { s with heap := h₁, toks := tk₁ } [x] Q E p.room (p.step k₁).base (p.step k₁).sub (.one r₁) fun z f₃ h₃ tk₃ k₃ r₃ => ?_
  exact hQ z f₃ h₃ tk₃ (k₁.trans k₃) (RT.anti k₁ r₃)
theorem HE.cmp {l r : Expr} {op : CmpOp} {pos : Pos} {a b : V} {c : Bool} (hl : HE W n sc ρ l (.val a)) (hr : HE W n sc ρ r (.val b)) (ho : Op W n (op2 (compareOp op)) [a, b] (.val (.bool c)))
    (hm : behindInMarks op r = false := by with_unfolding_all rfl) : HE W n sc ρ (.Compare l [op] [r] pos) (.val (.bool c)) := by
  intro env A P f s Q E p hQ
  refine wpAny_Compare1 (hl env A P f s _ E p fun x f₁ h₁ tk₁ k₁ r₁ => hr env A P f₁ { s with heap := h₁, toks := tk₁ } _ E (p.step k₁) fun y f₂ h₂ tk₂ k₂ r₂ => ?_) hm
  refine ho A f₂ { s with heap := h₂, toks := tk₂ } [x, y] Q E p.room ((p.step k₁).step k₂).base ((p.step k₁).step k₂).sub (.cons (Rep.mono k₂.le r₁) (.cons r₂ .nil)) fun z f₃ h₃ tk₃ k₃ r₃ => ?_
  exact hQ z f₃ h₃ tk₃ ((k₁.trans k₂).trans k₃) (RT.anti (k₁.trans k₂) r₃)
theorem HB.cmp {l r : Expr} {op : CmpOp} {pos : Pos} {a b : V} {c : Bool} (hl : HE W n sc ρ l (.val a)) (hr : HE W n sc ρ r (.val b)) (ho : Op W n (op2 (compareOp op)) [a, b] (.val (.bool c)))
    (hm : behindInMarks op r = false := by with_unfolding_all rfl) : HB W n sc ρ (.Compare l [op] [r] pos) c := by
  intro env A P f s Q E p hQ
  refine wpAny_isTrue_Compare1 (hl env A P f s _ E p fun x f₁ h₁ tk₁ k₁ r₁ => hr env A P f₁ { s with heap := h₁, toks := tk₁ } _ E (p.step k₁) fun y f₂ h₂ tk₂ k₂ r₂ => ?_) hm
  refine ho A f₂ { s with heap := h₂, toks := tk₂ } [x, y] _ E p.room ((p.step k₁).step k₂).base ((p.step k₁).step k₂).sub (.cons (Rep.mono k₂.le r₁) (.cons r₂ .nil)) fun z f₃ h₃ tk₃ k₃ r₃ => ?_
  obtain rfl := Rep.bool_inv r₃
  exact wpAny_truthy_bool (hQ _ f₃ h₃ tk₃ ((k₁.trans k₂).trans k₃) rfl)
/-- a < b < c -/
theorem HB.chain {l r r' : Expr} {op op' : CmpOp} {pos : Pos} {a b b' : V} {c c' : Bool} (hl : HE W n sc ρ l (.val a)) (hr : HE W n sc ρ r (.val b)) (ho : Op W n (op2 (compareOp op)) [a, b] (.val (.bool c)))
    (hr' : HE W n sc ρ r' (.val b')) (ho' : Op W n (op2 (compareOp op')) [b, b'] (.val (.bool c')))
    (hm : lastMarks [op, op'] [r, r'] = false := by with_unfolding_all rfl) : HB W n sc ρ (.Compare l [op, op'] [r, r'] pos) (c && c') := by
  intro env A P f s Q E p hQ
  refine isTrue_chain (hl env A P f s _ E p fun x f₁ h₁ tk₁ k₁ r₁ => ?_) hm
  show wpAny _ A (do
    let rv ← holding [x] (eval r env)
    standAt pos
    let c ← holding [x, rv] (compareOp op x rv)
    release [x, rv] [c]
    if ← holding [c, rv] (truthy c) then testChain pos rv [op'] [eval r' env] else pure false) _ E _
  refine wpAny_bind (wpAny_holding (hr env A P f₁ { s with heap := h₁, toks := tk₁ } _ E (p.step k₁) fun y f₂ h₂ tk₂ k₂ r₂ => ?_))
  refine wpAny_bind (wpAny_standAt (wpAny_bind (wpAny_holding ?_)))
  refine ho A f₂ { s with heap := h₂, toks := tk₂ } [x, y] _ E p.room ((p.step k₁).step k₂).base ((p.step k₁).step k₂).sub (.cons (Rep.mono k₂.le r₁) (.cons r₂ .nil)) fun z f₃ h₃ tk₃ k₃ r₃ => ?_
  obtain rfl := Rep.bool_inv r₃
  refine wpAny_bind (wpAny_release' (wpAny_bind (wpAny_holding (wpAny_truthy_bool ?_))))
  have k3 := (k₁.trans k₂).trans k₃
  cases c with
  | false => exact wpAny_pure (hQ _ f₃ h₃ tk₃ k3 rfl)
  | true =>
    show wpAny _ A (do
      let rv ← holding [y] (eval r' env)
      standAt pos
      let c ← operate [y, rv] (compareOp op' y rv)
      holding [c] (truthy c)) _ E _
    refine wpAny_bind (wpAny_holding (hr' env A P f₃ { s with heap := h₃, toks := tk₃ } _ E (p.step k3) fun y' f₄ h₄ tk₄ k₄ r₄ => ?_))
    refine wpAny_bind (wpAny_standAt (wpAny_bind (wpAny_operate' ?_)))
    refine ho' A f₄ { s with heap := h₄, toks := tk₄ } [y, y'] _ E p.room ((p.step k3).step k₄).base ((p.step k3).step k₄).sub (.cons (Rep.mono (k₃.le.trans k₄.le) r₂) (.cons r₄ .nil)) fun z' f₅ h₅ tk₅ k₅ r₅ => ?_
    obtain rfl := Rep.bool_inv r₅
    exact wpAny_holding (wpAny_truthy_bool (hQ _ f₅ h₅ tk₅ ((k3.trans k₄).trans k₅) (by simp)))

/-! truth -/
theorem HB.val {e : Expr} {v : V} {b : Bool} (h : HE W n sc ρ e (.val v)) (ho : OpB W n (op1 truthy) [v] b)
    (he : ∀ env whole, isTrue e env whole = (do let v ← whole; standAt e.pos; holding [v] (truthy v)) := by intro _ _; rfl) : HB W n sc ρ e b := by
  intro env A P f s Q E p hQ
  refine isTrue_plain (h env A P f s _ E p fun x f₁ h₁ tk₁ k₁ r₁ => ?_) (he _ _)
  refine ho A f₁ { s with heap := h₁, toks := tk₁ } [x] _ E p.room (p.step k₁).base (p.step k₁).sub (.one r₁) fun z f₃ h₃ tk₃ k₃ r₃ => ?_
  exact hQ z f₃ h₃ tk₃ (k₁.trans k₃) r₃
theorem HB.not {e : Expr} {pos : Pos} {b : Bool} (h : HB W n sc ρ e b) : HB W n sc ρ (.UnaryOp .Not e pos) (!b) := by
  intro env A P f s Q E p hQ
  refine isTrue_not (h env A P f s _ E p fun x f₁ h₁ tk₁ k₁ r₁ => ?_)
  subst r₁; exact hQ _ f₁ h₁ tk₁ k₁ rfl
theorem HB.andNil {pos : Pos} : HB W n sc ρ (.BoolOp .And [] pos) true := by
  intro env A P f s Q E p hQ
  exact isTrue_and_nil (hQ _ _ _ _ p.ok rfl)
theorem HB.orNil {pos : Pos} : HB W n sc ρ (.BoolOp .Or [] pos) false := by
  intro env A P f s Q E p hQ
  exact isTrue_or_nil (hQ _ _ _ _ p.ok rfl)
theorem HB.and {x : Expr} {rest : List Expr} {pos : Pos} {b c : Bool} (h : HB W n sc ρ x b) (h' : b = true → HB W n sc ρ (.BoolOp .And rest pos) c) : HB W n sc ρ (.BoolOp .And (x :: rest) pos) (b && c) := by
  intro env A P f s Q E p hQ
  refine isTrue_and (h env A P f s _ E p fun y f₁ h₁ tk₁ k₁ r₁ => ?_)
  subst r₁
  cases y with
  | false => exact hQ _ f₁ h₁ tk₁ k₁ rfl
  | true =>
    refine h' rfl env A P f₁ { s with heap := h₁, toks := tk₁ } _ E (p.step k₁) fun y f₂ h₂ tk₂ k₂ r₂ => ?_
    exact hQ _ f₂ h₂ tk₂ (k₁.trans k₂) (by simp [r₂])
theorem HB.or {x : Expr} {rest : List Expr} {pos : Pos} {b c : Bool} (h : HB W n sc ρ x b) (h' : b = false → HB W n sc ρ (.BoolOp .Or rest pos) c) : HB W n sc ρ (.BoolOp .Or (x :: rest) pos) (b || c) := by
  intro env A P f s Q E p hQ
  refine isTrue_or (h env A P f s _ E p fun y f₁ h₁ tk₁ k₁ r₁ => ?_)
  subst r₁
  cases y with
  | true => exact hQ _ f₁ h₁ tk₁ k₁ rfl
  | false =>
    refine h' rfl env A P f₁ { s with heap := h₁, toks := tk₁ } _ E (p.step k₁) fun y f₂ h₂ tk₂ k₂ r₂ => ?_
    exact hQ _ f₂ h₂ tk₂ (k₁.trans k₂) (by simp [r₂])
theorem HE.ite {t a b : Expr} {pos : Pos} {c : Bool} {v w : V} (ht : HB W n sc ρ t c) (ha : c = true → HE W n sc ρ a (.val v)) (hb : c = false → HE W n sc ρ b (.val w)) :
    HE W n sc ρ (.IfExp t a b pos) (.val (if c then v else w)) := by
  intro env A P f s Q E p hQ
  refine IfExp_ (ht env A P f s _ E p fun y f₁ h₁ tk₁ k₁ r₁ => ?_)
  subst r₁
  cases y with
  | true => exact ha rfl env A P f₁ { s with heap := h₁, toks := tk₁ } _ E (p.step k₁) fun y f₂ h₂ tk₂ k₂ r₂ => hQ _ f₂ h₂ tk₂ (k₁.trans k₂) r₂
  | false => exact hb rfl env A P f₁ { s with heap := h₁, toks := tk₁ } _ E (p.step k₁) fun y f₂ h₂ tk₂ k₂ r₂ => hQ _ f₂ h₂ tk₂ (k₁.trans k₂) r₂
/-- x or y, as a value -/
theorem HE.or {a b : Expr} {pos : Pos} {c : Bool} {v w : V} (ha : HE W n sc ρ a (.val v)) (ht : OpB W n (op1 truthy) [v] c) (hb : c = false → HE W n sc ρ b (.val w)) :
    HE W n sc ρ (.BoolOp .Or [a, b] pos) (.val (if c then v else w)) := by
  intro env A P f s Q E p hQ
  refine BoolOp_or (ha env A P f s _ E p fun y f₁ h₁ tk₁ k₁ r₁ => ?_)
  refine ht A f₁ { s with heap := h₁, toks := tk₁ } [y] _ E p.room (p.step k₁).base (p.step k₁).sub (.one r₁) fun z f₂ h₂ tk₂ k₂ r₂ => ?_
  subst r₂
  have k := k₁.trans k₂
  cases z with
  | true => exact hQ _ f₂ h₂ tk₂ k (Rep.mono k₂.le r₁)
  | false => exact BoolOp_one (hb rfl env A P f₂ { s with heap := h₂, toks := tk₂ } _ E (p.step k) fun y f₂ h₂ tk₂ k₂ r₂ => hQ _ f₂ h₂ tk₂ (k.trans k₂) r₂)

/-! argument rows, displays -/
theorem HA.nil {pos : Pos} : HA W n sc ρ pos [] [] := by
  intro env A P f s Q E p hQ
  exact args_nil (hQ _ _ _ _ p.ok .nil)
theorem HA.cons {pos : Pos} {e : Expr} {rest : List Expr} {v : V} {vs : List V} (h : HE W n sc ρ e (.val v)) (h' : HA W n sc ρ pos rest vs)
    (he : ∀ env, starEach (e :: rest) env = (false, eval e env) :: starEach rest env := by intro _; rfl) : HA W n sc ρ pos (e :: rest) (v :: vs) := by
  intro env A P f s Q E p hQ
  refine args_cons (h env A P f s _ E p fun x f₁ h₁ tk₁ k₁ r₁ => h' env A P f₁ { s with heap := h₁, toks := tk₁ } _ E (p.step k₁) fun xs f₂ h₂ tk₂ k₂ r₂ => ?_) (he _)
  exact hQ _ f₂ h₂ tk₂ (k₁.trans k₂) (.cons (Rep.mono k₂.le r₁) r₂)

theorem push_ext {h : Heap} {o : Obj} : ∀ a ob, h.get? a = some ob → (h.push o).get? a = some ob := fun _ _ e => Heap.get?_push_of_some _ e
theorem size_none (h : Heap) : h.get? h.objs.size = none := by
  cases q : h.get? h.objs.size with
  | none => rfl
  | some o => exact absurd (Heap.lt_size q) (Nat.lt_irrefl _)
theorem new_none {f : FH} {h : Heap} (hs : ∀ a o, f a = some o → h.get? a = some o) {a : Addr} (ha : h.get? a = none) : f a = none := by
  cases q : f a with
  | none => rfl
  | some o => rw [hs a o q] at ha; cases ha
theorem ok_push {f : FH} {h : Heap} {o : Obj} (hs : ∀ a o, f a = some o → h.get? a = some o) : Ok W f f h (h.push o) := Ok.heap hs push_ext
/-- a new list object -/
theorem newList_fresh {A : Around} {f : FH} {s : Shared} {vs : List V} {xs : List Value} {Q : Value → Shared → Prop} {E : Value → Shared → Prop}
    (hs : ∀ a o, f a = some o → s.heap.get? a = some o) (hv : Reps f vs xs) (hsz : vs.length ≤ sizeLine)
    (hQ : ∀ x f' h' tk, Ok W f f' s.heap h' → (RT.freshL vs).den f s.heap f' h' x → Q x { s with heap := h', toks := tk }) : wpAny W.M A (newList xs) Q E s := by
  refine wpAny_newObj_type ?_ (by show xs.toArray.size ≤ sizeLine; rw [List.size_toArray, hv.length]; exact hsz)
  refine hQ _ f _ s.toks (ok_push hs) ⟨_, xs, 0, rfl, size_none _, new_none hs (size_none _), ?_, hv⟩
  exact Heap.get?_push_size _ rfl
theorem newTuple_val {A : Around} {f : FH} {s : Shared} {vs : List V} {xs : List Value} {Q : Value → Shared → Prop} {E : Value → Shared → Prop}
    (hs : ∀ a o, f a = some o → s.heap.get? a = some o) (hv : Reps f vs xs) (hsz : vs.length ≤ sizeLine)
    (hQ : ∀ x f' h' tk, Ok W f f' s.heap h' → Rep f' (.tuple vs) x → Q x { s with heap := h', toks := tk }) : wpAny W.M A (newTuple xs) Q E s := by
  refine wpAny_newObj_type ?_ (by show xs.toArray.size ≤ sizeLine; rw [List.size_toArray, hv.length]; exact hsz)
  have hn := new_none hs (size_none s.heap)
  exact hQ _ (fz f s.heap.objs.size (tobj xs 0)) _ s.toks ((ok_push hs).freeze (size_none _) hn (Heap.get?_push_size _ rfl)) (.tuple fz_self (hv.mono (fz_le hn)))
theorem HE.listF {es : List Expr} {pos : Pos} {vs : List V} (h : HA W n sc ρ pos es vs) (hsz : vs.length ≤ 1000) : HE W n sc ρ (.List es pos) (.freshL vs) := by
  intro env A P f s Q E p hQ
  refine List_ (h env A P f s _ E p fun xs f₁ h₁ tk₁ k₁ r₁ => ?_)
  refine newList_fresh (s := { s with heap := h₁, toks := tk₁ }) (p.step k₁).sub r₁ (Nat.le_trans hsz (by decide)) fun x f' h' tk k d => ?_
  exact hQ _ f' h' tk (k₁.trans k) (RT.anti k₁ d)
theorem HE.list {es : List Expr} {pos : Pos} {vs : List V} (h : HA W n sc ρ pos es vs) (hsz : vs.length ≤ 1000) : HE W n sc ρ (.List es pos) (.val (.list vs)) := (HE.listF h hsz).freezeL
theorem HE.tuple {es : List Expr} {k : Nat} {pos : Pos} {vs : List V} (h : HA W n sc ρ pos es vs) (hsz : vs.length ≤ 1000) : HE W n sc ρ (.Tuple es k pos) (.val (.tuple vs)) := by
  intro env A P f s Q E p hQ
  refine Tuple_ (h env A P f s _ E p fun xs f₁ h₁ tk₁ k₁ r₁ => ?_)
  refine newTuple_val (s := { s with heap := h₁, toks := tk₁ }) (p.step k₁).sub r₁ (Nat.le_trans hsz (by decide)) fun x f' h' tk k d => ?_
  exact hQ _ f' h' tk (k₁.trans k) d

/-! subscripts -/
theorem V.typeIs {f : FH} {s : Shared} {x : Value} {v : V} (hs : ∀ a o, f a = some o → s.heap.get? a = some o) (r : Rep f v x) :
    (match v with | .str _ => s.TypeIs x "str" | .list _ => s.TypeIs x "list" | .tuple _ => s.TypeIs x "tuple" | .dict _ => s.TypeIs x "dict" | .int _ => s.TypeIs x "int" | .bool _ => s.TypeIs x "bool" | .range .. => s.TypeIs x "range" | .slice .. => s.TypeIs x "slice" | .none => True | .ty _ => True | .obj _ => True) := by
  cases r with
  | none => trivial
  | bool b => rfl
  | int i t => rfl
  | str x t => rfl
  | list e _ => exact ⟨_, hs _ _ e, rfl⟩
  | tuple e _ => exact ⟨_, hs _ _ e, rfl⟩
  | dict _ e _ => exact ⟨_, hs _ _ e, rfl⟩
  | range e => exact ⟨_, hs _ _ e, rfl⟩
  | slice e _ _ _ => exact ⟨_, hs _ _ e, rfl⟩
  | ty T => trivial
  | obj a => trivial
noncomputable def hasItems : V → Bool
  | .str _ | .list _ | .tuple _ | .dict _ => true
  | _ => false
theorem tail_rep {A : Around} {f : FH} {s : Shared} {value slice : Expr} {o i : Value} {v : V} {Q : Value → Shared → Prop} {E : Value → Shared → Prop}
    (hs : ∀ a o, f a = some o → s.heap.get? a = some o) (r : Rep f v o) (hv : hasItems v = true) (hg : wpAny W.M A (getItem o i) Q E s)
    (hsl : ∃ ops, subscripted slice false o i = operate ops (getItem o i)) : wpAny W.M A (subscriptTail value slice o i) Q E s := by
  obtain ⟨ops, hsl⟩ := hsl
  have ht := V.typeIs hs r
  cases v with
  | str _ => exact tail_any ht PySem.F.slot_str_getitem.lookup hg hsl
  | list _ => exact tail_any ht PySem.F.slot_list_getitem.lookup hg hsl
  | tuple _ => exact tail_any ht PySem.F.slot_tuple_getitem.lookup hg hsl
  | dict _ => exact tail_any ht PySem.F.slot_dict_getitem.lookup hg hsl
  | _ => cases hv
theorem HE.sub {value slice : Expr} {pos : Pos} {v i : V} {r : RT} (h : HE W n sc ρ value (.val v)) (h' : HE W n sc ρ slice (.val i)) (ho : Op W n (op2 getItem) [v, i] r)
    (hv : hasItems v = true) (hsl : ∀ o i, ∃ ops, subscripted slice false o i = operate ops (getItem o i)) : HE W n sc ρ (.Subscript value slice pos) r := by
  intro env A P f s Q E p hQ
  refine Subscript_ (h env A P f s _ E p fun x f₁ h₁ tk₁ k₁ r₁ => h' env A P f₁ { s with heap := h₁, toks := tk₁ } _ E (p.step k₁) fun y f₂ h₂ tk₂ k₂ r₂ => ?_)
  have p2 := (p.step k₁).step k₂
  refine tail_rep (s := { s with heap := h₂, toks := tk₂ }) p2.sub (Rep.mono k₂.le r₁) hv ?_ (hsl _ _)
  refine ho A f₂ { s with heap := h₂, toks := tk₂ } [x, y] Q E p.room p2.base p2.sub (.cons (Rep.mono k₂.le r₁) (.cons r₂ .nil)) fun z f₃ h₃ tk₃ k₃ r₃ => ?_
  exact hQ z f₃ h₃ tk₃ ((k₁.trans k₂).trans k₃) (RT.anti (k₁.trans k₂) r₃)

/-! calls -/
noncomputable def CallOk (W : Wd) (n : Nat) (x : Str) (vs : List V) (r : RT) : Prop :=
  ∃ a o fd, W.mg x = some (.ref a) ∧ W.base.get? a = some o ∧ o.data = .func fd ∧ Op W n (fun xs => call (.ref a) xs) vs r
theorem HE.callF {x : Str} {np pos : Pos} {e : Expr} {rest : List Expr} {vs : List V} {r : RT} (hg : isG sc x = true) (hf : CallOk W n x vs r) (ha : HA W n sc ρ pos (e :: rest) vs)
    (he : ∀ env, starEach (e :: rest) env = (false, eval e env) :: starEach rest env := by intro _; rfl) : HE W n sc ρ (.Call (.Name x np) (e :: rest) [] pos) r := by
  obtain ⟨a, o, fd, hm, ho, hd, hop⟩ := hf
  intro env A P f s Q E p hQ
  refine Call_ (HX.glob (W := W) (n := n) (ρ := ρ) hg hm env A P f s _ E p fun y f₁ h₁ tk₁ k₁ e₁ => ?_)
  subst e₁
  refine callWith_def hd (ha env A P f₁ { s with heap := h₁, toks := tk₁ } _ E (p.step k₁) fun xs f₂ h₂ tk₂ k₂ r₂ => ?_) (he _)
  have p2 := (p.step k₁).step k₂
  refine ⟨p2.bk _ _ ho, hop A f₂ { s with heap := h₂, toks := tk₂ } xs Q E p.room p2.base p2.sub r₂ fun z f₃ h₃ tk₃ k₃ r₃ => ?_⟩
  exact hQ z f₃ h₃ tk₃ ((k₁.trans k₂).trans k₃) (RT.anti (k₁.trans k₂) r₃)
theorem HE.callF0 {x : Str} {np pos : Pos} {r : RT} (hg : isG sc x = true) (hf : CallOk W n x [] r) : HE W n sc ρ (.Call (.Name x np) [] [] pos) r := by
  obtain ⟨a, o, fd, hm, ho, hd, hop⟩ := hf
  intro env A P f s Q E p hQ
  refine Call_ (HX.glob (W := W) (n := n) (ρ := ρ) hg hm env A P f s _ E p fun y f₁ h₁ tk₁ k₁ e₁ => ?_)
  subst e₁
  have p1 := p.step k₁
  refine PySem.Calls.callWith_function (o := o) (fd := fd) (PySem.evalArgs_none ⟨⟨p1.bk _ _ ho, hd⟩, ?_⟩)
  refine hop A f₁ { s with heap := h₁, toks := tk₁ } [] Q E p.room p1.base p1.sub .nil fun z f₃ h₃ tk₃ k₃ r₃ => ?_
  exact hQ z f₃ h₃ tk₃ (k₁.trans k₃) (RT.anti k₁ r₃)
theorem HE.callB {x : Str} {np pos : Pos} {id : String} {e : Expr} {rest : List Expr} {vs : List V} {r : RT} (hg : isG sc x = true) (hb : Bi W x (.builtin id)) (ha : HA W n sc ρ pos (e :: rest) vs)
    (hop : Op W n (fun xs => call (.builtin id) xs) vs r)
    (he : ∀ env, starEach (e :: rest) env = (false, eval e env) :: starEach rest env := by intro _; rfl) (hpl : ∀ env, (backTo pos (starEach rest env)).any (·.1) = false := by intro _; rfl) :
    HE W n sc ρ (.Call (.Name x np) (e :: rest) [] pos) r := by
  intro env A P f s Q E p hQ
  refine Call_ (HX.boot (W := W) (n := n) (ρ := ρ) hg hb env A P f s _ E p fun y f₁ h₁ tk₁ k₁ e₁ => ?_)
  subst e₁
  refine callWith_builtin1 (ha env A P f₁ { s with heap := h₁, toks := tk₁ } _ E (p.step k₁) fun xs f₂ h₂ tk₂ k₂ r₂ => ?_) (he _) (hpl _)
  have p2 := (p.step k₁).step k₂
  refine hop A f₂ { s with heap := h₂, toks := tk₂ } xs Q E p.room p2.base p2.sub r₂ fun z f₃ h₃ tk₃ k₃ r₃ => ?_
  exact hQ z f₃ h₃ tk₃ ((k₁.trans k₂).trans k₃) (RT.anti (k₁.trans k₂) r₃)
/-- a built-in class called; the result of any kind -/
theorem JX.callT {x : Str} {np pos : Pos} {T : String} {e : Expr} {rest : List Expr} {vs : List V} {R : FH → Heap → FH → Heap → Value → Prop} (hg : isG sc x = true) (hb : Bi W x (.type T)) (ha : HA W n sc ρ pos (e :: rest) vs)
    (hop : OpX W n (fun xs => call (.type T) xs) vs R) (hR : ∀ {f f₁ f' : FH} {h h₁ h' : Heap} {x : Value}, Ok W f f₁ h h₁ → R f₁ h₁ f' h' x → R f h f' h' x)
    (he : ∀ env, starEach (e :: rest) env = (false, eval e env) :: starEach rest env := by intro _; rfl) (hpl : ∀ env, (backTo pos (starEach rest env)).any (·.1) = false := by intro _; rfl) :
    JX W n sc ρ (fun env => eval (.Call (.Name x np) (e :: rest) [] pos) env) R := by
  intro env A P f s Q E p hQ
  refine Call_ (HX.boot (W := W) (n := n) (ρ := ρ) hg hb env A P f s _ E p fun y f₁ h₁ tk₁ k₁ e₁ => ?_)
  subst e₁
  refine PyProof.Rows.callWith_type1 (ha env A P f₁ { s with heap := h₁, toks := tk₁ } _ E (p.step k₁) fun xs f₂ h₂ tk₂ k₂ r₂ => ?_) (he _) (hpl _)
  have p2 := (p.step k₁).step k₂
  refine hop A f₂ { s with heap := h₂, toks := tk₂ } xs Q E p.room p2.base p2.sub r₂ fun z f₃ h₃ tk₃ k₃ r₃ => ?_
  exact hQ z f₃ h₃ tk₃ ((k₁.trans k₂).trans k₃) (hR (k₁.trans k₂) r₃)
theorem HE.callT {x : Str} {np pos : Pos} {T : String} {e : Expr} {rest : List Expr} {vs : List V} {r : RT} (hg : isG sc x = true) (hb : Bi W x (.type T)) (ha : HA W n sc ρ pos (e :: rest) vs)
    (hop : Op W n (fun xs => call (.type T) xs) vs r)
    (he : ∀ env, starEach (e :: rest) env = (false, eval e env) :: starEach rest env := by intro _; rfl) (hpl : ∀ env, (backTo pos (starEach rest env)).any (·.1) = false := by intro _; rfl) :
    HE W n sc ρ (.Call (.Name x np) (e :: rest) [] pos) r := JX.callT hg hb ha hop RT.anti he hpl
end Mine
end

/-! part M3 -/
section
open PySem PySem.W PyProof.Rows
namespace Mine
variable {W : Wd} {n : Nat} {sc : Scope} {ρ : List Bd}

inductive Out where
  | next
  | brk
  | cont
  | ret (v : V)
noncomputable def FlowOk (f : FH) : Out → Flow → Prop
  | .next, .next => True
  | .brk, .brk => True
  | .cont, .cont => True
  | .ret v, .ret x => Rep f v x
  | _, _ => False
/-- what is pinned stays: a table may grow -/
noncomputable def Pin (P : FH) (h : Heap) : Prop := ∀ a o, P a = some o → (¬ IsTab o → h.get? a = some o) ∧ (IsTab o → ∃ o', h.get? a = some o' ∧ IsTab o')
theorem Pin.there {P : FH} {h : Heap} (p : Pin P h) {a : Addr} {o : Obj} (e : P a = some o) : ∃ o', h.get? a = some o' := by
  by_cases c : IsTab o
  · obtain ⟨o', h1, _⟩ := (p a o e).2 c; exact ⟨o', h1⟩
  · exact ⟨o, (p a o e).1 c⟩
theorem Pin.step {P f f' : FH} {h h' : Heap} (p : Pin P h) (k : Ok W f f' h h') : Pin P h' := fun a o e =>
  ⟨fun c => k.ext a o ((p a o e).1 c) c, fun c => by obtain ⟨o', h1, h2⟩ := (p a o e).2 c; exact k.tab a o' h1 h2⟩
theorem Pin.self {h : Heap} : Pin h.get? h := fun a o e => ⟨fun _ => e, fun c => ⟨o, e, c⟩⟩
theorem Pin.heap {P : FH} {h h' : Heap} (p : Pin P h) (k : ∀ a o, P a ≠ none → h.get? a = some o → h'.get? a = some o) : Pin P h' := fun a o e =>
  ⟨fun c => k a o (by simp [e]) ((p a o e).1 c), fun c => by obtain ⟨o', h1, h2⟩ := (p a o e).2 c; exact ⟨o', k a o' (by simp [e]) h1, h2⟩⟩
/-- objects that are no record -/
noncomputable def NF (o : Obj) : Prop := ¬ IsTab o ∧ ∀ vs q t, o.data = .fields vs → vs[1]? ≠ some (.str q t)
theorem NF.tab {o : Obj} (h : NF o) : ¬ IsTab o := h.1
theorem NF.of {o : Obj} (h : ∀ vs, o.data ≠ .fields vs) : NF o := ⟨fun ⟨ps, e, _⟩ => h ps (by rw [e]), fun vs q t e => (h vs e).elim⟩
theorem NF.l {vs : List Value} {n : Nat} : NF (lobj vs n) := .of fun _ e => by cases e
theorem NF.d {vs : List DictEntry} {n : Nat} : NF (dobj vs n) := .of fun _ e => by cases e
theorem NF.ns {h : Heap} {a : Addr} {m : Str → Option Value} (x : h.Ns a m) : ∃ o, h.get? a = some o ∧ NF o := by
  obtain ⟨o, es, ep, ho, hd, _⟩ := x
  exact ⟨o, ho, .of fun vs e => by rw [hd] at e; cases e⟩
theorem NF.cell {h : Heap} {a : Addr} {v : Option Value} (x : h.IsCell a v) : ∃ o, h.get? a = some o ∧ NF o := by
  obtain ⟨o, ho, hd⟩ := x
  exact ⟨o, ho, .of fun vs e => by rw [hd] at e; cases e⟩
theorem NF.ty {o : Obj} {T : String} {us : Array Value} (h : o.cls = .type T) (hd : o.data = .fields us) (hu : ∀ q t, us[1]? ≠ some (.str q t)) : NF o :=
  ⟨fun ⟨ps, e, _⟩ => (by subst e; cases h), fun vs q t e => (by rw [hd] at e; cases e; exact hu q t)⟩
theorem Tab.off {k : Str} {h h' : Heap} {wr : List Addr} {q : Addr} (x : Tab k h q) (hn : ∀ a ∈ wr, ∃ o, h.get? a = some o ∧ NF o) (e : ∀ b o, b ∉ wr → h.get? b = some o → h'.get? b = some o) : Tab k h' q := by
  obtain ⟨ps, h1, h2, h3⟩ := x
  refine ⟨ps, e _ _ (fun hm => by obtain ⟨o, ho, hf⟩ := hn _ hm; rw [h1] at ho; cases ho; exact hf.tab ⟨_, rfl, h2⟩) h1, h2, fun pos cv hc => ?_⟩
  obtain ⟨c, o', vs, t, g1, g2, g4, g5⟩ := h3 pos cv hc
  refine ⟨c, o', vs, t, g1, e _ _ (fun hm => ?_) g2, g4, g5⟩
  obtain ⟨o, ho, hf⟩ := hn _ hm
  rw [g2] at ho; cases ho
  exact hf.2 _ _ _ g4 g5
theorem Tab.but {k : Str} {h h' : Heap} {a q : Addr} (x : Tab k h q) (hn : ∃ o, h.get? a = some o ∧ NF o) (e : ∀ b o, b ≠ a → h.get? b = some o → h'.get? b = some o) : Tab k h' q :=
  x.off (wr := [a]) (fun b hb => by rw [List.mem_singleton.mp hb]; exact hn) fun b o hb => e b o fun q => hb (List.mem_singleton.mpr q)
theorem Bs.off {f : FH} {h h' : Heap} {wr : List Addr} (x : Bs W f h) (hn : ∀ a ∈ wr, ∃ o, h.get? a = some o ∧ NF o) (e : ∀ b o, b ∉ wr → h.get? b = some o → h'.get? b = some o) : Bs W f h' := ⟨x.le, x.tf, fun q hq => (x.tabs q hq).off hn e⟩
theorem Bs.but {f : FH} {h h' : Heap} {a : Addr} (x : Bs W f h) (hn : ∃ o, h.get? a = some o ∧ NF o) (e : ∀ b o, b ≠ a → h.get? b = some o → h'.get? b = some o) : Bs W f h' := ⟨x.le, x.tf, fun q hq => (x.tabs q hq).but hn e⟩
theorem Bs.same {f : FH} {h h' : Heap} {a : Addr} (x : Bs W f h) (hn : ∃ o, h.get? a = some o ∧ NF o) (hs : Heap.SameBut a h h') : Bs W f h' := x.but hn fun b o hb e => (hs.2 b hb).trans e
theorem Bs.fz {f : FH} {h : Heap} {a : Addr} {o : Obj} (x : Bs W f h) (ho : h.get? a = some o) (hn : ¬ IsTab o) (hf : f a = none) : Bs W (Mine.fz f a o) h := ⟨x.le.trans (fz_le hf), fun q hq => by
  unfold Mine.fz
  obtain ⟨ps, h1, h2⟩ := x.tabs q hq
  rw [if_neg (by rintro rfl; rw [h1] at ho; cases ho; exact hn ⟨_, rfl, h2.1⟩)]
  exact x.tf q hq, x.tabs⟩
theorem Bs.keep {f : FH} {h h' : Heap} (x : Bs W f h) (e : ∀ a o, h.get? a = some o → h'.get? a = some o) : Bs W f h' := ⟨x.le, x.tf, fun q hq => (x.tabs q hq).keeps e⟩
theorem Pin.keep {P : FH} {h h' : Heap} (p : Pin P h) (e : ∀ a o, h.get? a = some o → h'.get? a = some o) : Pin P h' := p.heap fun a o _ q => e a o q
theorem Pin.same {P : FH} {h h' : Heap} {a : Addr} (p : Pin P h) (hs : Heap.SameBut a h h') (hP : P a = none) : Pin P h' := p.heap fun b o hb e => (hs.2 b (by rintro rfl; exact hb hP)).trans e
structure St (own : Str → Prop) (W : Wd) (n : Nat) (sc : Scope) (ρ : List Bd) (env : Env) (A : Around) (P f : FH) (h : Heap) : Prop where
  pre : Pre W n sc ρ env A P f h
  pin : Pin P h
  ns : ∃ m, h.Ns env.locals m
  locP : P env.locals = none
  locF : f env.locals = none
  cell : ∀ x c, own x → env.kindOf x = some .cell → env.cells.lookup x = some c → P c = none ∧ f c = none ∧ ∃ o, h.IsCell c o
  apart : ∀ x c, own x → env.cells.lookup x = some c → ∀ y c', env.cells.lookup y = some c' → y ≠ x → c' ≠ c
  len : ρ.length = (vnames sc).length
  capt : ∀ x c, (own x → env.kindOf x ≠ some .cell) → env.cells.lookup x = some c → P c ≠ none

theorem Ok.none' {f f' : FH} {h h' : Heap} (k : Ok W f f' h h') {a : Addr} (hf : f a = none) {o : Obj} (ho : h.get? a = some o) : f' a = none := by
  cases hq : f' a with
  | none => rfl
  | some o' => rcases k.new a o' hq with q | q
               · rw [hf] at q; cases q
               · rw [ho] at q; cases q
theorem St.step {own : Str → Prop} {env : Env} {A : Around} {P f f' : FH} {h h' : Heap} (x : St own W n sc ρ env A P f h) (k : Ok W f f' h h') : St own W n sc ρ env A P f' h' where
  pre := x.pre.step k
  pin := x.pin.step k
  ns := let ⟨m, hm⟩ := x.ns; ⟨m, Ns.keepsT hm k.ext⟩
  locP := x.locP
  locF := by obtain ⟨m, o, es, ep, ho, _⟩ := x.ns; exact k.none' x.locF ho
  cell := fun y c h0 h1 h2 => by
    obtain ⟨a1, a2, o, ob, ho, hd⟩ := x.cell y c h0 h1 h2
    exact ⟨a1, k.none' a2 ho, o, IsCell.keepsT ⟨ob, ho, hd⟩ k.ext⟩
  apart := x.apart
  len := x.len
  capt := x.capt

structure Gr (P f f' : FH) : Prop where
  le : Le f f'
  new : ∀ a o, f' a = some o → f a = some o ∨ P a = none
theorem Gr.refl (P f : FH) : Gr P f f := ⟨Le.refl _, fun _ _ e => .inl e⟩
theorem Gr.trans {P f f' f'' : FH} (x : Gr P f f') (y : Gr P f' f'') : Gr P f f'' := ⟨x.le.trans y.le, fun a o e => by
  rcases y.new a o e with h | h
  · exact x.new a o h
  · exact .inr h⟩
theorem Ok.gr {P f f' : FH} {h h' : Heap} (k : Ok W f f' h h') (pin : Pin P h) : Gr P f f' := ⟨k.le, fun a o e => by
  rcases k.new a o e with q | q
  · exact .inl q
  · refine .inr ?_
    cases hp : P a with
    | none => rfl
    | some o' => obtain ⟨o'', h1⟩ := pin.there hp; rw [h1] at q; cases q⟩

noncomputable def TX (W : Wd) (n : Nat) (sc : Scope) (ρ : List Bd) (t : Env → Sem Flow) (Post : Out → List Bd → Prop) : Prop :=
  ∀ env A P f s (Q : Flow → Shared → Prop) (E : Value → Shared → Prop), St (fun _ => True) W n sc ρ env A P f s.heap →
    (∀ fl o ρ' f' h' tk, Gr P f f' → St (fun _ => True) W n sc ρ' env A P f' h' → FlowOk f' o fl → Post o ρ' → Q fl { s with heap := h', toks := tk }) → wpAny W.M A (t env) Q E s
noncomputable abbrev HS (W : Wd) (n : Nat) (sc : Scope) (ρ : List Bd) (ss : List Stmt) (Post : Out → List Bd → Prop) : Prop := TX W n sc ρ (fun env => execs ss env) Post
noncomputable abbrev HT (W : Wd) (n : Nat) (sc : Scope) (ρ : List Bd) (st : Stmt) (Post : Out → List Bd → Prop) : Prop := TX W n sc ρ (fun env => exec st env) Post
variable {Post Mid : Out → List Bd → Prop}

theorem HS.nil (h : Post .next ρ) : HS W n sc ρ [] Post := by
  intro env A P f s Q E st hQ
  exact wpAny_execs_nil (hQ .next .next ρ f s.heap s.toks (Gr.refl _ _) st trivial h)
theorem HS.cons {st : Stmt} {rest : List Stmt} (h : HT W n sc ρ st Mid) (hn : ∀ ρ', Mid .next ρ' → HS W n sc ρ' rest Post) (ho : ∀ o ρ', Mid o ρ' → o ≠ .next → Post o ρ') : HS W n sc ρ (st :: rest) Post := by
  intro env A P f s Q E hst hQ
  refine wpAny_execs_cons (h env A P f s _ E hst fun fl o ρ' f' h' tk g st' fo p => ?_)
  cases o with
  | next =>
    cases fl with
    | next =>
      refine hn ρ' p env A P f' { s with heap := h', toks := tk } Q E st' fun fl o ρ'' f'' h'' tk' g' st'' fo' p' => ?_
      exact hQ fl o ρ'' f'' h'' tk' (g.trans g') st'' fo' p'
    | _ => exact fo.elim
  | brk => cases fl <;> first | exact fo.elim | exact hQ _ .brk ρ' f' h' tk g st' fo (ho _ _ p (by simp))
  | cont => cases fl <;> first | exact fo.elim | exact hQ _ .cont ρ' f' h' tk g st' fo (ho _ _ p (by simp))
  | ret v => cases fl <;> first | exact fo.elim | exact hQ _ (.ret v) ρ' f' h' tk g st' fo (ho _ _ p (by simp))
/-- one statement that goes on to a known frame -/
theorem HS.step {st : Stmt} {rest : List Stmt} {ρ' : List Bd} (h : HT W n sc ρ st (fun o r => o = .next ∧ r = ρ')) (hn : HS W n sc ρ' rest Post) : HS W n sc ρ (st :: rest) Post :=
  HS.cons h (fun r p => p.2 ▸ hn) (fun o r p q => absurd p.1 q)
/-- the last statement -/
theorem HS.last {st : Stmt} (h : HT W n sc ρ st Post) : HS W n sc ρ [st] Post := HS.cons (Mid := Post) h (fun r p => HS.nil p) (fun _ _ p _ => p)

theorem HT.ret {e : Expr} {pos : Pos} {v : V} (h : HE W n sc ρ e (.val v)) (hp : Post (.ret v) ρ) : HT W n sc ρ (.Return (some e) pos) Post := by
  intro env A P f s Q E st hQ
  refine wpAny_Return_some (h env A P f s _ E st.pre fun x f' h' tk k r => ?_)
  exact hQ _ (.ret v) ρ f' h' tk (k.gr st.pin) (st.step k) r hp
theorem HS.ret {e : Expr} {pos : Pos} {v : V} {rest : List Stmt} (h : HE W n sc ρ e (.val v)) (hp : Post (.ret v) ρ) : HS W n sc ρ (.Return (some e) pos :: rest) Post :=
  HS.cons (Mid := fun o r => o = .ret v ∧ r = ρ) (HT.ret h ⟨rfl, rfl⟩) (fun _ p => by cases p.1) (fun o r p _ => by obtain ⟨rfl, rfl⟩ := p; exact hp)
theorem HS.brk {pos : Pos} {rest : List Stmt} (hp : Post .brk ρ) : HS W n sc ρ (.Break pos :: rest) Post := by
  refine HS.cons (Mid := fun o r => o = .brk ∧ r = ρ) ?_ (fun _ p => by cases p.1) (fun o r p _ => by obtain ⟨rfl, rfl⟩ := p; exact hp)
  intro env A P f s Q E st hQ
  show wpAny _ _ (do standAt pos; pure Flow.brk) _ _ _
  exact wpAny_bind (wpAny_standAt (wpAny_pure (hQ .brk .brk ρ f s.heap s.toks (Gr.refl _ _) st trivial ⟨rfl, rfl⟩)))
theorem HT.ifS {t : Expr} {body orelse : List Stmt} {pos : Pos} {c : Bool} (ht : HB W n sc ρ t c) (ha : c = true → HS W n sc ρ body Post) (hb : c = false → HS W n sc ρ orelse Post) :
    HT W n sc ρ (.If t body orelse pos) Post := by
  intro env A P f s Q E st hQ
  refine wpAny_If (ht env A P f s _ E st.pre fun y f₁ h₁ tk₁ k₁ r₁ => ?_)
  subst r₁
  cases y with
  | true => exact ha rfl env A P f₁ { s with heap := h₁, toks := tk₁ } _ E (st.step k₁) fun fl o ρ' f' h' tk g st' fo p => hQ fl o ρ' f' h' tk ((k₁.gr st.pin).trans g) st' fo p
  | false => exact hb rfl env A P f₁ { s with heap := h₁, toks := tk₁ } _ E (st.step k₁) fun fl o ρ' f' h' tk g st' fo p => hQ fl o ρ' f' h' tk ((k₁.gr st.pin).trans g) st' fo p
/-- what is wanted behind a statement that the rest follows -/
noncomputable def Then (W : Wd) (n : Nat) (sc : Scope) (rest : List Stmt) (Post : Out → List Bd → Prop) (o : Out) (r : List Bd) : Prop :=
  match o with
  | .next => HS W n sc r rest Post
  | o => Post o r
theorem HS.thn {st : Stmt} {rest : List Stmt} (h : HT W n sc ρ st (Then W n sc rest Post)) : HS W n sc ρ (st :: rest) Post :=
  HS.cons (Mid := Then W n sc rest Post) h (fun _ p => p) (fun o r p q => by cases o <;> first | exact p | exact absurd rfl q)
/-- an if, its ways going on with the rest -/
theorem HS.ifS {t : Expr} {body orelse rest : List Stmt} {pos : Pos} {c : Bool} (ht : HB W n sc ρ t c) (ha : c = true → HS W n sc ρ body (Then W n sc rest Post)) (hb : c = false → HS W n sc ρ orelse (Then W n sc rest Post)) :
    HS W n sc ρ (.If t body orelse pos :: rest) Post := HS.thn (HT.ifS ht ha hb)
/-- an if without else -/
theorem HS.ifN {t : Expr} {body rest : List Stmt} {pos : Pos} {c : Bool} (ht : HB W n sc ρ t c) (ha : c = true → HS W n sc ρ body (Then W n sc rest Post)) (hb : c = false → HS W n sc ρ rest Post) :
    HS W n sc ρ (.If t body [] pos :: rest) Post := HS.ifS ht ha (fun q => HS.nil (hb q))
theorem HS.next {rest : List Stmt} (h : HS W n sc ρ rest Post) : HS W n sc ρ [] (Then W n sc rest Post) := HS.nil h

/-! storing a name -/
theorem nodup_idx : ∀ {l : List Str}, l.Nodup → ∀ {i j : Nat} {x : Str}, l[i]? = some x → l[j]? = some x → i = j
  | [], _, i, j, x, h, _ => by simp at h
  | a :: l, hn, 0, 0, x, _, _ => rfl
  | a :: l, hn, 0, j + 1, x, h, h' => by
    simp at h h'; subst h
    exact absurd (List.mem_of_getElem? h') (List.nodup_cons.mp hn).1
  | a :: l, hn, i + 1, 0, x, h, h' => by
    simp at h h'; subst h'
    exact absurd (List.mem_of_getElem? h) (List.nodup_cons.mp hn).1
  | a :: l, hn, i + 1, j + 1, x, h, h' => by
    simp at h h'
    rw [nodup_idx (List.nodup_cons.mp hn).2 h h']
theorem BdOk.same {L b : Addr} {P f : FH} {h h' : Heap} {o : Option Value} {bd : Bd} (x : BdOk L P f h o bd) (hs : Heap.SameBut b h h')
    (hl : ∀ vs n, h.get? b ≠ some (lobj vs n)) (hd : b = L ∨ ∀ es n, h.get? b ≠ some (dobj es n)) : BdOk L P f h' o bd := by
  cases bd with
  | unb => exact x
  | imm v => exact x
  | mutL xs =>
    obtain ⟨a, vs, n, e, ho, r⟩ := x
    have hab : a ≠ b := by rintro rfl; exact hl _ _ ho
    exact ⟨a, vs, n, e, (hs.2 a hab).trans ho, r⟩
  | mutD xs =>
    obtain ⟨a, vs, n, e, hm, ho, r, h1, h2, h3, h4⟩ := x
    have hab : a ≠ b := by
      rintro rfl
      rcases hd with hd | hd
      · exact h4 hd
      · exact hd _ _ ho
    exact ⟨a, vs, n, e, hm, (hs.2 a hab).trans ho, r, h1, h2, h3, h4⟩
theorem ns_not_list {h : Heap} {a : Addr} {m : Str → Option Value} (x : h.Ns a m) (vs : List Value) (n : Nat) : h.get? a ≠ some (lobj vs n) := by
  obtain ⟨o, es, ep, ho, hd, _⟩ := x
  intro e; rw [ho] at e; cases e; cases hd
theorem cell_not_list {h : Heap} {a : Addr} {v : Option Value} (x : h.IsCell a v) (vs : List Value) (n : Nat) : h.get? a ≠ some (lobj vs n) := by
  obtain ⟨o, ho, hd⟩ := x
  intro e; rw [ho] at e; cases e; cases hd
theorem cell_not_dict {h : Heap} {a : Addr} {v : Option Value} (x : h.IsCell a v) (vs : List DictEntry) (n : Nat) : h.get? a ≠ some (dobj vs n) := by
  obtain ⟨o, ho, hd⟩ := x
  intro e; rw [ho] at e; cases e; cases hd
theorem cell_not_ns {h : Heap} {a : Addr} {v : Option Value} {m : Str → Option Value} (x : h.IsCell a v) (y : h.Ns a m) : False := by
  obtain ⟨o, ho, hd⟩ := x
  obtain ⟨o', es, ep, ho', hd', _⟩ := y
  rw [ho] at ho'; cases ho'; rw [hd] at hd'; cases hd'

/-- the frame behind a store into the namespace -/
theorem St.setL {own : Str → Prop} {env : Env} {A : Around} {P f : FH} {h h' : Heap} {i : Nat} {x : Str} {v : Value} {b : Bd} {m : Str → Option Value} (st : St own W n sc ρ env A P f h) (hx : (vnames sc)[i]? = some x)
    (hb : BdOk env.locals P f h (some v) b) (hk : env.kindOf x = some .local) (hm : h.Ns env.locals m) (hn : h'.Ns env.locals (fun y => if y = x then some v else m y)) (hs : Heap.SameBut env.locals h h') :
    St own W n sc (ρ.set i b) env A P f h' where
  pre := {
    eok := st.pre.eok
    room := st.pre.room
    base := st.pre.base.same (NF.ns hm) hs
    sub := fun a o e => (hs.2 a (by rintro rfl; rw [st.locF] at e; cases e)).trans (st.pre.sub a o e)
    vars := fun j bj e => by
      have tr : ∀ {o bd}, BdOk env.locals P f h o bd → BdOk env.locals P f h' o bd := fun q => q.same hs (ns_not_list hm) (.inl rfl)
      by_cases hj : j = i
      · subst hj
        have hlt : j < ρ.length := by rw [st.len]; exact (List.getElem?_eq_some_iff.mp hx).1
        rw [List.getElem?_set_self hlt] at e
        cases e
        exact ⟨x, some v, by rw [st.pre.eok.scope]; exact hx, .inl ⟨hk, _, hn, by simp⟩, tr hb⟩
      · rw [List.getElem?_set_ne (Ne.symm hj)] at e
        obtain ⟨y, o, h1, h2, h3⟩ := st.pre.vars j bj e
        have hyx : y ≠ x := by
          rintro rfl
          rw [st.pre.eok.scope] at h1
          exact hj (nodup_idx st.pre.eok.nodup h1 hx)
        refine ⟨y, o, h1, ?_, tr h3⟩
        rcases h2 with ⟨k, m', hn', hm'⟩ | ⟨k, c, hc, hv⟩
        · refine .inl ⟨k, _, hn, ?_⟩
          simp only [hyx, if_false]
          obtain ⟨o1, es1, ep1, g1, d1, _, f1⟩ := hm
          obtain ⟨o2, es2, ep2, g2, d2, _, f2⟩ := hn'
          rw [g1] at g2; cases g2
          rw [d1] at d2; cases d2
          rw [← hm', ← f1, ← f2]
        · refine .inr ⟨k, c, hc, hv.sameBut hs ?_⟩
          rintro rfl
          exact cell_not_ns hv hm }
  pin := st.pin.same hs st.locP
  ns := ⟨_, hn⟩
  locP := st.locP
  locF := st.locF
  cell := fun y c h0 h1 h2 => by
    obtain ⟨a1, a2, o, ho⟩ := st.cell y c h0 h1 h2
    exact ⟨a1, a2, o, ho.sameBut hs (by rintro rfl; exact cell_not_ns ho hm)⟩
  apart := st.apart
  len := by rw [List.length_set]; exact st.len
  capt := st.capt
theorem St.setC {own : Str → Prop} {env : Env} {A : Around} {P f : FH} {h h' : Heap} {i : Nat} {x : Str} {v : Value} {b : Bd} {c : Addr} (st : St own W n sc ρ env A P f h) (hx : (vnames sc)[i]? = some x)
    (hb : BdOk env.locals P f h (some v) b) (hk : env.kindOf x = some .cell) (hc : env.cells.lookup x = some c) (hn : h'.IsCell c (some v)) (hs : Heap.SameBut c h h') (how : own x) :
    St own W n sc (ρ.set i b) env A P f h' := by
  obtain ⟨cP, cF, co, hco⟩ := st.cell x c how hk hc
  obtain ⟨m, hm⟩ := st.ns
  have hLc : env.locals ≠ c := by rintro rfl; exact cell_not_ns hco hm
  exact {
    pre := {
      eok := st.pre.eok
      room := st.pre.room
      base := st.pre.base.same (NF.cell hco) hs
      sub := fun a o e => (hs.2 a (by rintro rfl; rw [cF] at e; cases e)).trans (st.pre.sub a o e)
      vars := fun j bj e => by
        have tr : ∀ {o bd}, BdOk env.locals P f h o bd → BdOk env.locals P f h' o bd := fun q => q.same hs (cell_not_list hco) (.inr (cell_not_dict hco))
        by_cases hj : j = i
        · subst hj
          have hlt : j < ρ.length := by rw [st.len]; exact (List.getElem?_eq_some_iff.mp hx).1
          rw [List.getElem?_set_self hlt] at e
          cases e
          exact ⟨x, some v, by rw [st.pre.eok.scope]; exact hx, .inr ⟨.inl hk, c, hc, hn⟩, tr hb⟩
        · rw [List.getElem?_set_ne (Ne.symm hj)] at e
          obtain ⟨y, o, h1, h2, h3⟩ := st.pre.vars j bj e
          have hyx : y ≠ x := by
            rintro rfl
            rw [st.pre.eok.scope] at h1
            exact hj (nodup_idx st.pre.eok.nodup h1 hx)
          refine ⟨y, o, h1, ?_, tr h3⟩
          rcases h2 with ⟨k, m', hn', hm'⟩ | ⟨k, c', hc', hv⟩
          · exact .inl ⟨k, m', hn'.sameBut hs hLc, hm'⟩
          · refine .inr ⟨k, c', hc', hv.sameBut hs ?_⟩
            exact st.apart x c how hc y c' hc' hyx }
    pin := st.pin.same hs cP
    ns := ⟨m, hm.sameBut hs hLc⟩
    locP := st.locP
    locF := st.locF
    cell := fun y c' h0 h1 h2 => by
      obtain ⟨a1, a2, o, ho⟩ := st.cell y c' h0 h1 h2
      by_cases hcc : c' = c
      · subst hcc; exact ⟨a1, a2, _, hn⟩
      · exact ⟨a1, a2, o, ho.sameBut hs hcc⟩
    apart := st.apart
    len := by rw [List.length_set]; exact st.len
    capt := st.capt }
theorem St.store {own : Str → Prop} {env : Env} {A : Around} {P f : FH} {s : Shared} {i : Nat} {x : Str} {v : Value} {b : Bd} {Q : Unit → Shared → Prop} {E : Value → Shared → Prop} (st : St own W n sc ρ env A P f s.heap) (hx : (vnames sc)[i]? = some x)
    (hb : BdOk env.locals P f s.heap (some v) b) (hfr : (sc.names.lookup x == some .free) = false) (hQ : ∀ h' tk, St own W n sc (ρ.set i b) env A P f h' → Q () { s with heap := h', toks := tk }) (how : own x) :
    wpAny W.M A (storeName env x v) Q E s := by
  have hlt : i < ρ.length := by rw [st.len]; exact (List.getElem?_eq_some_iff.mp hx).1
  obtain ⟨o, hl, _, _⟩ := st.pre.look hx (List.getElem?_eq_getElem hlt)
  have hkf : env.scope.kind = .function := by rw [st.pre.eok.scope]; exact st.pre.eok.kind
  rcases hl with ⟨k, m, hn, hm⟩ | ⟨k, c, hc, hv⟩
  · exact wpAny_storeName_local k hn (fun h' hn' hs' => hQ h' _ (st.setL hx hb k hn hn' hs')) (by rw [hkf]; rfl)
  · rcases k with k | k
    · exact wpAny_storeName_cell hkf k hc hv fun h' hn' hs' => hQ h' s.toks (st.setC hx hb k hc hn' hs' how)
    · exfalso
      have : sc.names.lookup x = some .free := by rw [← st.pre.eok.scope]; exact k
      rw [this] at hfr; cases hfr

theorem BdOk.imm {L : Addr} {P f : FH} {h : Heap} {x : Value} {v : V} (r : Rep f v x) : BdOk L P f h (some x) (.imm v) := ⟨x, rfl, r⟩
theorem HS.assign (i : Nat) {x : Str} {xp pos : Pos} {e : Expr} {rest : List Stmt} {v : V} (h : HE W n sc ρ e (.val v)) (hn : HS W n sc (ρ.set i (.imm v)) rest Post)
    (hx : (vnames sc)[i]? = some x := by rfl) (hfr : (sc.names.lookup x == some .free) = false := by rfl)
    (hsw : ∀ env, env.scope = sc → swapsWith e (some (.Name x xp)) pos.line env = pure false := by intro _ _; rfl) : HS W n sc ρ (.Assign [.Name x xp] e pos :: rest) Post := by
  refine HS.step (ρ' := ρ.set i (.imm v)) ?_ hn
  intro env A P f s Q E st hQ
  refine wpAny_Assign_Name (h env A P f s _ E st.pre fun y f' h' tk k r => ?_) (hsw env st.pre.eok.scope)
  refine (st.step k).store (s := { s with heap := h', toks := tk }) hx (.imm r) hfr (how := trivial) fun h'' tk' st' => ?_
  exact hQ .next .next _ f' h'' tk' (k.gr st.pin) st' trivial ⟨rfl, rfl⟩
theorem HS.assignL (i : Nat) {x : Str} {xp pos : Pos} {e : Expr} {rest : List Stmt} {xs : List V} (h : HE W n sc ρ e (.freshL xs)) (hn : HS W n sc (ρ.set i (.mutL xs)) rest Post)
    (hx : (vnames sc)[i]? = some x := by rfl) (hfr : (sc.names.lookup x == some .free) = false := by rfl)
    (hsw : ∀ env, env.scope = sc → swapsWith e (some (.Name x xp)) pos.line env = pure false := by intro _ _; rfl) : HS W n sc ρ (.Assign [.Name x xp] e pos :: rest) Post := by
  refine HS.step (ρ' := ρ.set i (.mutL xs)) ?_ hn
  intro env A P f s Q E st hQ
  refine wpAny_Assign_Name (h env A P f s _ E st.pre fun y f' h' tk k r => ?_) (hsw env st.pre.eok.scope)
  obtain ⟨a, vs, m, rfl, h1, h2, h3, h4⟩ := r
  refine (st.step k).store (s := { s with heap := h', toks := tk }) hx (b := .mutL xs) ⟨a, vs, m, rfl, h3, h4, h2, ?_⟩ hfr (how := trivial) fun h'' tk' st' => ?_
  · cases hp : P a with
    | none => rfl
    | some o' => obtain ⟨o'', h9⟩ := st.pin.there hp; rw [h9] at h1; cases h1
  · exact hQ .next .next _ f' h'' tk' (k.gr st.pin) st' trivial ⟨rfl, rfl⟩
theorem HS.assignD (i : Nat) {x : Str} {xp pos : Pos} {e : Expr} {rest : List Stmt} {xs : List (Int × V)} (h : HE W n sc ρ e (.freshD xs)) (hn : HS W n sc (ρ.set i (.mutD xs)) rest Post)
    (hx : (vnames sc)[i]? = some x := by rfl) (hfr : (sc.names.lookup x == some .free) = false := by rfl)
    (hsw : ∀ env, env.scope = sc → swapsWith e (some (.Name x xp)) pos.line env = pure false := by intro _ _; rfl) : HS W n sc ρ (.Assign [.Name x xp] e pos :: rest) Post := by
  refine HS.step (ρ' := ρ.set i (.mutD xs)) ?_ hn
  intro env A P f s Q E st hQ
  refine wpAny_Assign_Name (h env A P f s _ E st.pre fun y f' h' tk k r => ?_) (hsw env st.pre.eok.scope)
  obtain ⟨a, vs, m, rfl, hsm, h1, h2, h3, h4, h5⟩ := r
  refine (st.step k).store (s := { s with heap := h', toks := tk }) hx (b := .mutD xs) ⟨a, vs, m, rfl, hsm, h3, h4, h5, h2, ?_, ?_⟩ hfr (how := trivial) fun h'' tk' st' => ?_
  · cases hp : P a with
    | none => rfl
    | some o' => obtain ⟨o'', h9⟩ := st.pin.there hp; rw [h9] at h1; cases h1
  · rintro rfl
    obtain ⟨m, o, es, ep, ho, _⟩ := st.ns
    rw [ho] at h1; cases h1
  · exact hQ .next .next _ f' h'' tk' (k.gr st.pin) st' trivial ⟨rfl, rfl⟩
/-- a = b = e -/
theorem HS.assign2 (i j : Nat) {x y : Str} {xp yp pos : Pos} {e : Expr} {rest : List Stmt} {v : V} (h : HE W n sc ρ e (.val v)) (hn : HS W n sc ((ρ.set i (.imm v)).set j (.imm v)) rest Post)
    (hx : (vnames sc)[i]? = some x := by rfl) (hy : (vnames sc)[j]? = some y := by rfl) (hfr : (sc.names.lookup x == some .free) = false := by rfl) (hfr' : (sc.names.lookup y == some .free) = false := by rfl) :
    HS W n sc ρ (.Assign [.Name x xp, .Name y yp] e pos :: rest) Post := by
  refine HS.step (ρ' := (ρ.set i (.imm v)).set j (.imm v)) ?_ hn
  intro env A P f s Q E st hQ
  refine wpAny_Assign_two ?_
  refine h env A P f s _ E st.pre fun z f' h' tk k r => ?_
  refine wpAny_assign_Name ((st.step k).store (s := { s with heap := h', toks := tk }) hx (.imm r) hfr (how := trivial) fun h'' tk' st' => ?_)
  refine wpAny_assign_Name (st'.store (s := { s with heap := h'', toks := tk' }) hy (.imm r) hfr' (how := trivial) fun h3 tk3 st3 => ?_)
  exact hQ .next .next _ f' h3 tk3 (k.gr st.pin) st3 trivial ⟨rfl, rfl⟩
theorem HS.aug (i : Nat) {x : Str} {xp pos : Pos} {op : Operator} {e : Expr} {rest : List Stmt} {u v w : V} (h : HE W n sc ρ e (.val v)) (ho : Op W n (op2 (inplaceOp op)) [u, v] (.val w)) (hn : HS W n sc (ρ.set i (.imm w)) rest Post)
    (hu : ρ[i]? = some (.imm u) := by rfl)
    (hx : (vnames sc)[i]? = some x := by rfl) (hfr : (sc.names.lookup x == some .free) = false := by rfl) : HS W n sc ρ (.AugAssign (.Name x xp) op e pos :: rest) Post := by
  refine HS.step (ρ' := ρ.set i (.imm w)) ?_ hn
  intro env A P f s Q E st hQ
  obtain ⟨o, hl, ⟨y, rfl, hr⟩, hm⟩ := st.pre.look hx hu
  refine wpAny_AugAssign_Name (look_load st.pre.eok hm hl ?_)
  refine h env A P f s _ E st.pre fun z f' h' tk k r => ?_
  refine ho A f' { s with heap := h', toks := tk } [y, z] _ E st.pre.room (st.pre.step k).base (st.pre.step k).sub (.cons (hr.mono k.le) (.cons r .nil)) fun z' f₂ h₂ tk₂ k₂ r₂ => ?_
  refine (st.step (k.trans k₂)).store (s := { s with heap := h₂, toks := tk₂ }) hx (.imm r₂) hfr (how := trivial) fun h'' tk' st' => ?_
  exact hQ .next .next _ f₂ h'' tk' ((k.trans k₂).gr st.pin) st' trivial ⟨rfl, rfl⟩

/-! a frozen name -/
theorem HS.freezeL (i : Nat) {ss : List Stmt} {xs : List V} (hv : ρ[i]? = some (.mutL xs)) (h : HS W n sc (ρ.set i (.imm (.list xs))) ss Post) (ho : ∀ j ys, j ≠ i → ρ[j]? ≠ some (.mutL ys)) : HS W n sc ρ ss Post := by
  intro env A P f s Q E st hQ
  obtain ⟨x, o, h1, h2, a, vs, m, rfl, ha, hr, hf, hP⟩ := st.pre.vars i _ hv
  have ha' : fz f a (lobj vs m) a = some (lobj vs m) := fz_self
  have hle : Le f (fz f a (lobj vs m)) := fz_le hf
  have hne : ∀ b, b ≠ a → fz f a (lobj vs m) b = f b := fun b hb => by simp [fz, hb]
  refine h env A P (fz f a (lobj vs m)) s Q E ?_ fun fl o ρ' f' h' tk g st' fo p => hQ fl o ρ' f' h' tk ⟨hle.trans g.le, fun b ob e => ?_⟩ st' fo p
  · exact {
      pre := {
        eok := st.pre.eok
        room := st.pre.room
        base := st.pre.base.fz ha notTab_l hf
        sub := fun b ob e => by
          by_cases hb : b = a
          · subst hb; rw [ha'] at e; cases e; exact ha
          · rw [hne b hb] at e; exact st.pre.sub b ob e
        vars := fun j bj e => by
          by_cases hj : j = i
          · subst hj
            have hlt : j < ρ.length := (List.getElem?_eq_some_iff.mp hv).1
            rw [List.getElem?_set_self hlt] at e
            cases e
            exact ⟨x, _, h1, h2, _, rfl, .list ha' (hr.mono hle)⟩
          · rw [List.getElem?_set_ne (Ne.symm hj)] at e
            obtain ⟨y, o, g1, g2, g3⟩ := st.pre.vars j bj e
            refine ⟨y, o, g1, g2, ?_⟩
            cases bj with
            | unb => exact g3
            | imm v => obtain ⟨z, q, r⟩ := g3; exact ⟨z, q, r.mono hle⟩
            | mutL ys => exact absurd e (ho j ys hj)
            | mutD ys =>
              obtain ⟨b, es, m', q1, q2, q3, q4, q5, q6, q7, q8⟩ := g3
              refine ⟨b, es, m', q1, q2, q3, q4.mono hle, q5, ?_, q7, q8⟩
              rw [hne b (by rintro rfl; rw [ha] at q3; simp [lobj, dobj] at q3)]; exact q6 }
      pin := st.pin
      ns := st.ns
      locP := st.locP
      locF := by
        obtain ⟨m', hm⟩ := st.ns
        rw [hne _ (by rintro rfl; exact ns_not_list hm _ _ ha)]; exact st.locF
      cell := fun y c e0 e1 e2 => by
        obtain ⟨b1, b2, o, b3⟩ := st.cell y c e0 e1 e2
        exact ⟨b1, by rw [hne _ (by rintro rfl; exact cell_not_list b3 _ _ ha)]; exact b2, o, b3⟩
      apart := st.apart
      len := by rw [List.length_set]; exact st.len
      capt := st.capt }
  · rcases g.new b ob e with q | q
    · by_cases hb : b = a
      · subst hb; exact .inr hP
      · rw [hne b hb] at q; exact .inl q
    · exact .inr q
theorem HS.freezeD (i : Nat) {ss : List Stmt} {xs : List (Int × V)} (hv : ρ[i]? = some (.mutD xs)) (h : HS W n sc (ρ.set i (.imm (.dict xs))) ss Post) (ho : ∀ j ys, j ≠ i → ρ[j]? ≠ some (.mutD ys)) : HS W n sc ρ ss Post := by
  intro env A P f s Q E st hQ
  obtain ⟨x, o, h1, h2, a, vs, m, rfl, hsm, ha, hr, hnd, hf, hP, haL⟩ := st.pre.vars i _ hv
  have ha' : fz f a (dobj vs m) a = some (dobj vs m) := fz_self
  have hle : Le f (fz f a (dobj vs m)) := fz_le hf
  have hne : ∀ b, b ≠ a → fz f a (dobj vs m) b = f b := fun b hb => by simp [fz, hb]
  refine h env A P (fz f a (dobj vs m)) s Q E ?_ fun fl o ρ' f' h' tk g st' fo p => hQ fl o ρ' f' h' tk ⟨hle.trans g.le, fun b ob e => ?_⟩ st' fo p
  · exact {
      pre := {
        eok := st.pre.eok
        room := st.pre.room
        base := st.pre.base.fz ha notTab_d hf
        sub := fun b ob e => by
          by_cases hb : b = a
          · subst hb; rw [ha'] at e; cases e; exact ha
          · rw [hne b hb] at e; exact st.pre.sub b ob e
        vars := fun j bj e => by
          by_cases hj : j = i
          · subst hj
            have hlt : j < ρ.length := (List.getElem?_eq_some_iff.mp hv).1
            rw [List.getElem?_set_self hlt] at e
            cases e
            exact ⟨x, _, h1, h2, _, rfl, .dict hsm ha' (hr.mono hle) hnd⟩
          · rw [List.getElem?_set_ne (Ne.symm hj)] at e
            obtain ⟨y, o, g1, g2, g3⟩ := st.pre.vars j bj e
            refine ⟨y, o, g1, g2, ?_⟩
            cases bj with
            | unb => exact g3
            | imm v => obtain ⟨z, q, r⟩ := g3; exact ⟨z, q, r.mono hle⟩
            | mutD ys => exact absurd e (ho j ys hj)
            | mutL ys =>
              obtain ⟨b, es, m', q1, q3, q4, q6, q7⟩ := g3
              refine ⟨b, es, m', q1, q3, q4.mono hle, ?_, q7⟩
              rw [hne b (by rintro rfl; rw [ha] at q3; simp [lobj, dobj] at q3)]; exact q6 }
      pin := st.pin
      ns := st.ns
      locP := st.locP
      locF := by rw [hne _ (Ne.symm haL)]; exact st.locF
      cell := fun y c e0 e1 e2 => by
        obtain ⟨b1, b2, o, b3⟩ := st.cell y c e0 e1 e2
        exact ⟨b1, by rw [hne _ (by rintro rfl; exact cell_not_dict b3 _ _ ha)]; exact b2, o, b3⟩
      apart := st.apart
      len := by rw [List.length_set]; exact st.len
      capt := st.capt }
  · rcases g.new b ob e with q | q
    · by_cases hb : b = a
      · subst hb; exact .inr hP
      · rw [hne b hb] at q; exact .inl q
    · exact .inr q
end Mine
end

/-! part M4 -/
section
open PySem PySem.W PyProof.Rows
namespace Mine
variable {W : Wd} {n : Nat} {sc : Scope} {ρ : List Bd}

theorem Op.ii {t : Value → Value → Sem Value} {a b c : Int}
    (h : ∀ A (s : Shared) (ta tb : Tok) (Q : Value → Shared → Prop) E, Room n A → (∀ t tk, Q (.int c t) { s with toks := tk }) → wpAny W.M A (t (.int a ta) (.int b tb)) Q E s) :
    Op W n (op2 t) [.int a, .int b] (.val (.int c)) := by
  intro A f s xs Q E hr hb hs hv hQ
  obtain ⟨x, y, rfl, hx, hy⟩ := hv.two_inv
  obtain ⟨t, rfl⟩ := hx.int_inv
  obtain ⟨u, rfl⟩ := hy.int_inv
  exact h A s _ _ Q E hr fun t tk => hQ _ f s.heap tk (Ok.refl hs) (.int _ _)
theorem Op.iib {t : Value → Value → Sem Value} {a b : Int} {c : Bool}
    (h : ∀ A (s : Shared) (ta tb : Tok) (Q : Value → Shared → Prop) E, Room n A → (∀ tk, Q (.bool c) { s with toks := tk }) → wpAny W.M A (t (.int a ta) (.int b tb)) Q E s) :
    Op W n (op2 t) [.int a, .int b] (.val (.bool c)) := by
  intro A f s xs Q E hr hb hs hv hQ
  obtain ⟨x, y, rfl, hx, hy⟩ := hv.two_inv
  obtain ⟨t, rfl⟩ := hx.int_inv
  obtain ⟨u, rfl⟩ := hy.int_inv
  exact h A s _ _ Q E hr fun tk => hQ _ f s.heap tk (Ok.refl hs) (.bool _)
theorem Op.add {a b : Int} : Op W n (op2 (binaryOp .Add)) [.int a, .int b] (.val (.int (a + b))) := Op.ii fun A s ta tb Q E hr hQ => wpAny_add_int (hQ _ _)
theorem Op.sub {a b : Int} : Op W n (op2 (binaryOp .Sub)) [.int a, .int b] (.val (.int (a - b))) := Op.ii fun A s ta tb Q E hr hQ => PyProof.Rows.sub_int (hQ _ _)
theorem Op.mul {a b : Int} (hm : IntMulOk a b) : Op W n (op2 (binaryOp .Mult)) [.int a, .int b] (.val (.int (a * b))) := Op.ii fun A s ta tb Q E hr hQ => PyProof.Rows.mul_int (hQ _ _) hm
theorem Op.mod {a b : Int} (hm : b ≠ 0) : Op W n (op2 (binaryOp .Mod)) [.int a, .int b] (.val (.int (a.fmod b))) := Op.ii fun A s ta tb Q E hr hQ => PyProof.Rows.mod_int' hm (hQ _ _)
theorem Op.fdiv {a b : Int} (hm : b ≠ 0) (hp : b.natAbs < 1073741824) : Op W n (op2 (binaryOp .FloorDiv)) [.int a, .int b] (.val (.int (a.fdiv b))) :=
  Op.ii fun A s ta tb Q E hr hQ => PyProof.Rows.floordiv_int hm (hQ _ _) (.inl (PyProof.noPylong_small hp))
theorem Op.shr {a b : Int} (hm : 0 ≤ b) : Op W n (op2 (binaryOp .RShift)) [.int a, .int b] (.val (.int (a.fdiv (2 ^ b.toNat)))) := Op.ii fun A s ta tb Q E hr hQ => PyProof.Rows.rshift_int hm (hQ _ _)
theorem Op.shl {a b : Int} (hm : 0 ≤ b) (hsz : (Builtin.Int.intBits a : Int) + b ≤ 2 ^ 27) : Op W n (op2 (binaryOp .LShift)) [.int a, .int b] (.val (.int (a * 2 ^ b.toNat))) :=
  Op.ii fun A s ta tb Q E hr hQ => PyProof.Rows.lshift_int hm hsz (hQ _ _)
theorem Op.pow {a b : Int} (hm : 0 ≤ b) (hsz : (Builtin.Int.intBits a : Int) * b ≤ 2 ^ 27) : Op W n (op2 (binaryOp .Pow)) [.int a, .int b] (.val (.int (a ^ b.toNat))) :=
  Op.ii fun A s ta tb Q E hr hQ => PyProof.Rows.pow_int hm hsz (hQ _ _)
theorem Op.and {a b : Int} : Op W n (op2 (binaryOp .BitAnd)) [.int a, .int b] (.val (.int (Builtin.bitAnd a b))) := Op.ii fun A s ta tb Q E hr hQ => PyProof.Rows.and_int (hQ _ _)
theorem Op.xor {a b : Int} : Op W n (op2 (binaryOp .BitXor)) [.int a, .int b] (.val (.int (Builtin.bitXor a b))) := Op.ii fun A s ta tb Q E hr hQ => PyProof.Rows.xor_int (hQ _ _)
theorem Op.iadd {a b : Int} : Op W n (op2 (inplaceOp .Add)) [.int a, .int b] (.val (.int (a + b))) := Op.ii fun A s ta tb Q E hr hQ => PyProof.Rows.iadd_int (hQ _ _)
theorem Op.isub {a b : Int} : Op W n (op2 (inplaceOp .Sub)) [.int a, .int b] (.val (.int (a - b))) := Op.ii fun A s ta tb Q E hr hQ => PyProof.Rows.isub_int (hQ _ _)
theorem Op.ixor {a b : Int} : Op W n (op2 (inplaceOp .BitXor)) [.int a, .int b] (.val (.int (Builtin.bitXor a b))) := Op.ii fun A s ta tb Q E hr hQ => PyProof.Rows.ixor_int (hQ _ _)
theorem Op.eq {a b : Int} : Op W n (op2 (compareOp .Eq)) [.int a, .int b] (.val (.bool (a == b))) := Op.iib fun A s ta tb Q E hr hQ => PyProof.Rows.eq_int (hQ _)
theorem Op.ne {a b : Int} : Op W n (op2 (compareOp .NotEq)) [.int a, .int b] (.val (.bool (a != b))) := Op.iib fun A s ta tb Q E hr hQ => PyProof.Rows.ne_int (hQ _)
theorem Op.lt {a b : Int} : Op W n (op2 (compareOp .Lt)) [.int a, .int b] (.val (.bool (decide (a < b)))) := Op.iib fun A s ta tb Q E hr hQ => PyProof.Rows.lt_int (hQ _)
theorem Op.gt {a b : Int} : Op W n (op2 (compareOp .Gt)) [.int a, .int b] (.val (.bool (decide (b < a)))) := Op.iib fun A s ta tb Q E hr hQ => PyProof.Rows.gt_int (hQ _)
theorem Op.le {a b : Int} : Op W n (op2 (compareOp .LtE)) [.int a, .int b] (.val (.bool (decide (a ≤ b)))) := Op.iib fun A s ta tb Q E hr hQ => PyProof.Rows.le_int (hQ _)
theorem Op.i {t : Value → Sem Value} {a c : Int}
    (h : ∀ A (s : Shared) (ta : Tok) (Q : Value → Shared → Prop) E, Room n A → (∀ t tk, Q (.int c t) { s with toks := tk }) → wpAny W.M A (t (.int a ta)) Q E s) :
    Op W n (op1 t) [.int a] (.val (.int c)) := by
  intro A f s xs Q E hr hb hs hv hQ
  obtain ⟨x, rfl, hx⟩ := hv.one_inv
  obtain ⟨t, rfl⟩ := hx.int_inv
  exact h A s _ Q E hr fun t tk => hQ _ f s.heap tk (Ok.refl hs) (.int _ _)
theorem Op.neg {a : Int} : Op W n (op1 (unaryOp .USub)) [.int a] (.val (.int (-a))) := Op.i fun A s ta Q E hr hQ => PyProof.Rows.neg_int (hQ _ _)
theorem Op.inv {a : Int} : Op W n (op1 (unaryOp .Invert)) [.int a] (.val (.int (Builtin.bitNot a))) := Op.i fun A s ta Q E hr hQ => PyProof.Rows.invert_int (hQ _ _)

theorem fit62 {n : Nat} (h : n < 2 ^ 62) : (n : Int) < 2 ^ 63 := by
  have e1 : (2:Int)^63 = 9223372036854775808 := by decide
  have e2 : (2:Nat)^62 = 4611686018427387904 := by decide
  omega
/-! truth -/
theorem Op.tI {a : Int} : OpB W n (op1 truthy) [.int a] (a != 0) := by
  intro A f s xs Q E hr hb hs hv hQ
  obtain ⟨x, rfl, hx⟩ := hv.one_inv
  obtain ⟨t, rfl⟩ := hx.int_inv
  exact PyProof.Rows.truthy_int (hQ _ f s.heap s.toks (Ok.refl hs) rfl)
theorem Op.tB {a : Bool} : OpB W n (op1 truthy) [.bool a] a := by
  intro A f s xs Q E hr hb hs hv hQ
  obtain ⟨x, rfl, hx⟩ := hv.one_inv
  obtain rfl := hx.bool_inv
  exact wpAny_truthy_bool (hQ _ f s.heap s.toks (Ok.refl hs) rfl)
theorem Op.tS {a : Str} (h : a.length < 2 ^ 62) : OpB W n (op1 truthy) [.str a] (a.length != 0) := by
  intro A f s xs Q E hr hb hs hv hQ
  obtain ⟨x, rfl, hx⟩ := hv.one_inv
  obtain ⟨t, rfl⟩ := hx.str_inv
  refine PySem.P.truthy_str (Int.not_le.mpr (fit62 h)) (hQ _ f s.heap _ (Ok.refl hs) ?_)
  show ((a.length : Int) != 0) = (a.length != 0)
  rw [Bool.eq_iff_iff]; simp
theorem Reps.arr {f : FH} {vs : List V} {xs : List Value} (h : Reps f vs xs) : xs.toArray.size = vs.length := by rw [List.size_toArray, h.length]
theorem isList {h : Heap} {a : Addr} {vs : List Value} {m : Nat} (e : h.get? a = some (lobj vs m)) : h.IsList a vs.toArray := ⟨_, e, rfl, _, rfl⟩
theorem isTuple {h : Heap} {a : Addr} {vs : List Value} {m : Nat} (e : h.get? a = some (tobj vs m)) : h.IsTuple a vs.toArray := ⟨_, e, rfl, _, rfl⟩
theorem Op.tL {a : List V} (h : a.length < 2 ^ 62) : OpB W n (op1 truthy) [.list a] (a.length != 0) := by
  intro A f s xs Q E hr hb hs hv hQ
  obtain ⟨x, rfl, hx⟩ := hv.one_inv
  obtain ⟨l, vs, m, rfl, hl, hr'⟩ := hx.list_inv
  have hsz := hr'.arr
  refine wpAny_truthy_list (isList (hs _ _ hl)) (fit62 (by omega)) (hQ _ f s.heap _ (Ok.refl hs) ?_)
  show (!vs.toArray.isEmpty) = (a.length != 0)
  rw [← hr'.length]; cases vs <;> rfl

/-! is -/
theorem Op.isNone {v : V} : Op W n (op2 (compareOp .Is)) [v, .none] (.val (.bool (match v with | .none => true | _ => false))) := by
  intro A f s xs Q E hr hb hs hv hQ
  obtain ⟨x, y, rfl, hx, hy⟩ := hv.two_inv
  obtain rfl := hy.none_inv
  refine is_none_gen ?_
  cases v with
  | none => obtain rfl := hx.none_inv; exact hQ _ f s.heap s.toks (Ok.refl hs) (.bool _)
  | bool b => cases hx; exact hQ _ f s.heap s.toks (Ok.refl hs) (.bool _)
  | int b => cases hx; exact hQ _ f s.heap s.toks (Ok.refl hs) (.bool _)
  | str b => cases hx; exact hQ _ f s.heap s.toks (Ok.refl hs) (.bool _)
  | list b => cases hx; exact hQ _ f s.heap s.toks (Ok.refl hs) (.bool _)
  | tuple b => cases hx; exact hQ _ f s.heap s.toks (Ok.refl hs) (.bool _)
  | dict b => cases hx; exact hQ _ f s.heap s.toks (Ok.refl hs) (.bool _)
  | range a b c => cases hx; exact hQ _ f s.heap s.toks (Ok.refl hs) (.bool _)
  | slice a b c => cases hx; exact hQ _ f s.heap s.toks (Ok.refl hs) (.bool _)
  | ty T => cases hx; exact hQ _ f s.heap s.toks (Ok.refl hs) (.bool _)
  | obj T => cases hx; exact hQ _ f s.heap s.toks (Ok.refl hs) (.bool _)

/-! strs -/
theorem Op.addS {a b : Str} (hsz : a.length + b.length ≤ 1000000) : Op W n (op2 (binaryOp .Add)) [.str a, .str b] (.val (.str (a ++ b))) := by
  intro A f s xs Q E hr hb hs hv hQ
  obtain ⟨x, y, rfl, hx, hy⟩ := hv.two_inv
  obtain ⟨t, rfl⟩ := hx.str_inv
  obtain ⟨u, rfl⟩ := hy.str_inv
  exact PyProof.Rows.add_str (fun t' tk => hQ _ f s.heap tk (Ok.refl hs) (.str _ _)) (by rw [sizeLine_eq]; omega)
theorem Op.eqS {a b : Str} : Op W n (op2 (compareOp .Eq)) [.str a, .str b] (.val (.bool (a == b))) := by
  intro A f s xs Q E hr hb hs hv hQ
  obtain ⟨x, y, rfl, hx, hy⟩ := hv.two_inv
  obtain ⟨t, rfl⟩ := hx.str_inv
  obtain ⟨u, rfl⟩ := hy.str_inv
  exact PyProof.Rows.eq_str (hQ _ f s.heap _ (Ok.refl hs) (.bool _))
theorem Op.neS {a b : Str} : Op W n (op2 (compareOp .NotEq)) [.str a, .str b] (.val (.bool (a != b))) := by
  intro A f s xs Q E hr hb hs hv hQ
  obtain ⟨x, y, rfl, hx, hy⟩ := hv.two_inv
  obtain ⟨t, rfl⟩ := hx.str_inv
  obtain ⟨u, rfl⟩ := hy.str_inv
  exact PyProof.Rows.ne_str (hQ _ f s.heap _ (Ok.refl hs) (.bool _))
end Mine
end

/-! part M5 -/
section
open PySem PySem.W PyProof.Rows PySem.Calls
namespace Mine
variable {W : Wd} {n : Nat} {sc : Scope} {ρ : List Bd}

/-! helpers -/
theorem sub_ext {f : FH} {h h' : Heap} (hs : ∀ a o, f a = some o → h.get? a = some o) (e : ∀ a o, h.get? a = some o → h'.get? a = some o) : Ok W f f h h' := Ok.heap hs e

/-! calls of built-ins: t is fun xs => call c xs -/
theorem OpC.one {c : Value} {v : V} {r : RT}
    (h : ∀ A f s x (Q : Value → Shared → Prop) E, Room n A → (∀ a o, f a = some o → s.heap.get? a = some o) → Rep f v x →
      (∀ x' f' h' tk, Ok W f f' s.heap h' → r.den f s.heap f' h' x' → Q x' { s with heap := h', toks := tk }) → wpAny W.M A (call c [x]) Q E s) : Op W n (fun xs => call c xs) [v] r := by
  intro A f s xs Q E hr hb hs hv hQ
  obtain ⟨x, rfl, hx⟩ := hv.one_inv
  exact h A f s x Q E hr hs hx hQ
theorem OpC.two {c : Value} {v w : V} {r : RT}
    (h : ∀ A f s x y (Q : Value → Shared → Prop) E, Room n A → (∀ a o, f a = some o → s.heap.get? a = some o) → Rep f v x → Rep f w y →
      (∀ x' f' h' tk, Ok W f f' s.heap h' → r.den f s.heap f' h' x' → Q x' { s with heap := h', toks := tk }) → wpAny W.M A (call c [x, y]) Q E s) : Op W n (fun xs => call c xs) [v, w] r := by
  intro A f s xs Q E hr hb hs hv hQ
  obtain ⟨x, y, rfl, hx, hy⟩ := hv.two_inv
  exact h A f s x y Q E hr hs hx hy hQ
theorem OpC.lenL {xs : List V} (h : xs.length < 2 ^ 62) : Op W n (fun as => call (.builtin "len") as) [.list xs] (.val (.int xs.length)) :=
  OpC.one fun A f s x Q E hr hs hx hQ => by
    obtain ⟨l, vs, m, rfl, hl, hv⟩ := hx.list_inv
    refine len_list (isList (hs _ _ hl)) (fit62 (by rw [hv.arr]; exact h)) ?_
    rw [hv.arr]
    exact hQ _ f s.heap _ (Ok.refl hs) (.int _ _)
theorem OpC.lenS {a : Str} (h : a.length < 2 ^ 62) : Op W n (fun as => call (.builtin "len") as) [.str a] (.val (.int a.length)) :=
  OpC.one fun A f s x Q E hr hs hx hQ => by
    obtain ⟨t, rfl⟩ := hx.str_inv
    exact PySem.P.len_str (Int.not_le.mpr (fit62 h)) (hQ _ f s.heap _ (Ok.refl hs) (.int _ _))
theorem OpC.chr {a : Int} (h0 : 0 ≤ a) (h1 : a ≤ 1114111) : Op W n (fun as => call (.builtin "chr") as) [.int a] (.val (.str ⟨#[a.toNat]⟩)) :=
  OpC.one fun A f s x Q E hr hs hx hQ => by
    obtain ⟨t, rfl⟩ := hx.int_inv
    exact PyProof.Rows.chr_of_range h0 h1 (hQ _ f s.heap _ (Ok.refl hs) (.str _ _))
theorem OpC.hex {a : Int} (h1 : (baseText "0x" 16 a).length ≤ 1000) : Op W n (fun as => call (.builtin "hex") as) [.int a] (.val (.str (baseText "0x" 16 a))) :=
  OpC.one fun A f s x Q E hr hs hx hQ => by
    obtain ⟨t, rfl⟩ := hx.int_inv
    exact PySem.P.hex_of_int (hQ _ f s.heap _ (Ok.refl hs) (.str _ _)) (Nat.le_trans h1 (by decide))
theorem OpC.divmod {a b : Int} (hb : b ≠ 0) (hp : b.natAbs.log2 < 9000) : Op W n (fun as => call (.builtin "divmod") as) [.int a, .int b] (.val (.tuple [.int (a.fdiv b), .int (a.fmod b)])) :=
  OpC.two fun A f s x y Q E hr hs hx hy hQ => by
    obtain ⟨t, rfl⟩ := hx.int_inv
    obtain ⟨u, rfl⟩ := hy.int_inv
    refine divmod_int hb ?_ (.inl (PyProof.noPylong_of_log2 hp))
    have hn := new_none hs (size_none s.heap)
    refine hQ _ (fz f s.heap.objs.size (tobj [.int (a.fdiv b) s.toks, .int (a.fmod b) (s.toks + 1)] 0)) _ _ ((ok_push hs).freeze (size_none _) hn (Heap.get?_push_size _ rfl)) ?_
    exact .tuple fz_self (.cons (.int _ _) (.one (.int _ _)))
theorem OpC.strI {a : Int} (h : a.natAbs.log2 < 1920) : Op W n (fun as => call (.type "str") as) [.int a] (.val (.str (Str.ofString (toString a)))) :=
  OpC.one fun A f s x Q E hr hs hx hQ => by
    obtain ⟨t, rfl⟩ := hx.int_inv
    exact PySem.P.str_of_int h (hQ _ f s.heap _ (Ok.refl hs) (.str _ _))
theorem OpC.min2 {a b : Int} : Op W n (fun as => call (.builtin "min") as) [.int a, .int b] (.val (.int (if b < a then b else a))) :=
  OpC.two fun A f s x y Q E hr hs hx hy hQ => by
    obtain ⟨t, rfl⟩ := hx.int_inv
    obtain ⟨u, rfl⟩ := hy.int_inv
    refine min_two_ints hr.handled fun h' tk hk => ?_
    by_cases c : b < a
    · rw [if_pos c]; rw [if_pos c] at hQ; exact hQ _ f h' tk (sub_ext hs hk) (.int _ _)
    · rw [if_neg c]; rw [if_neg c] at hQ; exact hQ _ f h' tk (sub_ext hs hk) (.int _ _)
/-- a list of ints, as values -/
theorem Reps.ints {f : FH} : ∀ {ns : List Int} {xs : List Value}, Reps f (ns.map .int) xs → IntsAre xs ns
  | [], _, h => by cases h; exact .nil
  | a :: r, _, h => by
    cases h with | cons h1 h2 => obtain ⟨t, rfl⟩ := h1.int_inv; exact .cons _ _ h2.ints
theorem Reps.of_ints {f : FH} : ∀ {ns : List Int} {xs : List Value}, IntsAre xs ns → Reps f (ns.map .int) xs
  | _, _, .nil => .nil
  | _, _, .cons _ _ h => .cons (.int _ _) (Reps.of_ints h)
theorem preSum_take (ns : List Int) : ∀ k, k ≤ ns.length → preSum (fun i => ns.getD i 0) k = (ns.take k).sum
  | 0, _ => by simp [preSum]
  | k + 1, h => by
    rw [preSum, preSum_take ns k (by omega), List.take_add_one]
    have : ns[k]? = some (ns.getD k 0) := by rw [List.getD_eq_getElem?_getD, List.getElem?_eq_getElem (by omega)]; rfl
    rw [this]; simp
theorem listIter_facts {s : Shared} {l : Addr} {vs : List Value} {m : Nat} (hl : s.heap.get? l = some (lobj vs m)) :
    l ≠ s.heap.objs.size ∧ (s.heap.push { cls := .type "list_iterator", data := .fields #[.ref l, .int 0 0] }).IsListIter s.heap.objs.size l 0 ∧
    (s.heap.push { cls := .type "list_iterator", data := .fields #[.ref l, .int 0 0] }).IsList l vs.toArray :=
  ⟨Nat.ne_of_lt (Heap.lt_size hl), ⟨_, Heap.get?_push_size _ rfl, rfl, rfl⟩, (isList hl).push _⟩
theorem OpC.sumI {ns : List Int} : Op W n (fun as => call (.builtin "sum") as) [.list (ns.map .int)] (.val (.int ns.sum)) :=
  OpC.one fun A f s x Q E hr hs hx hQ => by
    obtain ⟨l, vs, m, rfl, hl, hv⟩ := hx.list_inv
    have hi := hv.ints
    have hL := hs _ _ hl
    obtain ⟨hne, hit, hil⟩ := listIter_facts hL
    refine call_sum_walkG (wpAny_pyIter_list (isList hL) ⟨_, _, _, _, _, _, fun i => ns.getD i 0, rfl, Walks.list (A := A.in1) hr.handled _ _ hne vs.toArray, ⟨hit, hil⟩, ?_, ?_, ?_⟩)
    · intro b hb
      show b < (s.heap.push _).objs.size
      rw [Heap.size_push]
      have := Heap.lt_size hL
      rcases List.mem_cons.mp hb with rfl | hb
      · exact Nat.lt_succ_self _
      · rw [List.mem_singleton.mp hb]; exact Nat.lt_succ_of_lt this
    · intro i v hv'
      have hv'' : vs[i]? = some v := by simpa using hv'
      obtain ⟨w, hw, hr'⟩ := hv.get' hv''
      rw [List.getElem?_map] at hw
      obtain ⟨a, ha, rfl⟩ := Option.map_eq_some_iff.mp hw
      obtain ⟨t, rfl⟩ := hr'.int_inv
      exact ⟨t, by simp [ha]⟩
    · intro h' tk t' hk
      have e : preSum (fun i => ns.getD i 0) vs.toArray.size = ns.sum := by
        rw [hv.arr, List.length_map, preSum_take ns _ (Nat.le_refl _), List.take_length]
      rw [e]
      refine hQ _ f h' tk (sub_ext hs fun a o ea => hk a o ?_ (Heap.get?_push_of_some _ ea)) (.int _ _)
      intro hm
      have := Heap.lt_size ea
      rw [List.mem_singleton.mp hm] at this
      exact Nat.lt_irrefl _ this

/-! ranges -/
theorem newRange {f : FH} {s : Shared} {a b c : Int} {t u v : Tok} {tk : Nat} {Q : Value → Shared → Prop}
    (hs : ∀ a o, f a = some o → s.heap.get? a = some o)
    (hQ : ∀ x' f' h' tk, Ok W f f' s.heap h' → Rep f' (.range a b c) x' → Q x' { s with heap := h', toks := tk }) :
    Q (.ref s.heap.objs.size) { s with heap := s.heap.push { cls := .type "range", data := .fields #[.int a t, .int b u, .int c v] }, toks := tk } := by
  have hn := new_none hs (size_none s.heap)
  exact hQ _ (fz f s.heap.objs.size _) _ _ ((ok_push hs).freeze (size_none _) hn (Heap.get?_push_size _ rfl)) (.range fz_self)
theorem OpC.range1 {a : Int} : Op W n (fun as => call (.type "range") as) [.int a] (.val (.range 0 a 1)) :=
  OpC.one fun A f s x Q E hr hs hx hQ => by
    obtain ⟨t, rfl⟩ := hx.int_inv
    exact call_range_1 (newRange hs hQ)
theorem OpC.range2 {a b : Int} : Op W n (fun as => call (.type "range") as) [.int a, .int b] (.val (.range a b 1)) :=
  OpC.two fun A f s x y Q E hr hs hx hy hQ => by
    obtain ⟨t, rfl⟩ := hx.int_inv
    obtain ⟨u, rfl⟩ := hy.int_inv
    exact call_range_2 (newRange hs hQ)
theorem OpC.range3 {a b c : Int} (hc : c ≠ 0) (hc' : c.natAbs < 1073741824) : Op W n (fun as => call (.type "range") as) [.int a, .int b, .int c] (.val (.range a b c)) := by
  intro A f s xs Q E hr hb hs hv hQ
  obtain ⟨x, y, z, rfl, hx, hy, hz⟩ := hv.three_inv
  obtain ⟨t, rfl⟩ := hx.int_inv
  obtain ⟨u, rfl⟩ := hy.int_inv
  obtain ⟨v, rfl⟩ := hz.int_inv
  exact call_range_3 hc (newRange (tk := s.toks) hs hQ) (.inl (PyProof.noPylong_small hc'))
noncomputable def rangeInts (a c : Int) (k : Nat) : List Int := (List.range k).map fun i : Nat => a + i * c
theorem Reps.of_items {f : FH} {vs : List V} {xs : List Value} (hl : xs.length = vs.length) (h : ∀ (i : Nat) (v : V) (x : Value), vs[i]? = some v → xs[i]? = some x → Rep f v x) : Reps f vs xs := by
  induction vs generalizing xs with
  | nil => cases xs with
    | nil => exact .nil
    | cons a b => simp at hl
  | cons v vs ih => cases xs with
    | nil => simp at hl
    | cons x xs => exact .cons (h 0 v x rfl rfl) (ih (by simpa using hl) fun i v' x' h1 h2 => h (i + 1) v' x' (by simpa using h1) (by simpa using h2))
theorem OpC.listRange {a b c : Int} {k : Nat} (hsm : Builtin.Range.small a b c = true) (hk : Builtin.Range.rangeSize a b c = k) (hk' : k ≤ 1000000) :
    Op W n (fun as => call (.type "list") as) [.range a b c] (.freshL ((rangeInts a c k).map .int)) :=
  OpC.one fun A f s x Q E hr hs hx hQ => by
    obtain ⟨r, t, u, v, rfl, he⟩ := hx.range_inv
    refine call_list_range hr.handled (hs _ _ he) hsm hk (by omega) fun h' tk acc c' hkp hg hi => ?_
    refine hQ _ f h' tk (sub_ext hs hkp) ⟨_, acc.toList, c', rfl, size_none _, new_none hs (size_none _), by rw [hg]; simp [lobj], ?_⟩
    refine Reps.of_items (by rw [Array.length_toList, hi.1]; simp [rangeInts]) fun i v x h1 h2 => ?_
    rw [Array.getElem?_toList] at h2
    obtain ⟨t, rfl⟩ := hi.2 i x h2
    rw [List.getElem?_map, rangeInts, List.getElem?_map] at h1
    have hlt : i < k := by
      have := (Array.getElem?_eq_some_iff.mp h2).1
      rw [hi.1] at this; exact this
    rw [List.getElem?_range hlt] at h1
    simp only [Option.map_some, Option.some.injEq] at h1
    subst h1; exact .int _ _
theorem OpC.listList {xs : List V} (h : xs.length ≤ 1000000) : Op W n (fun as => call (.type "list") as) [.list xs] (.freshL xs) :=
  OpC.one fun A f s x Q E hr hs hx hQ => by
    obtain ⟨l, vs, m, rfl, hl, hv⟩ := hx.list_inv
    refine call_list_seq l (.inl rfl) (hs _ _ hl) rfl rfl (fun h' c' hk hg => ?_) (by rw [hv.arr, sizeLine_eq]; omega)
    exact hQ _ f h' s.toks (sub_ext hs hk) ⟨_, vs, c', rfl, size_none _, new_none hs (size_none _), hg, hv⟩

/-! items -/
theorem Op2.mk {t : Value → Value → Sem Value} {v w : V} {r : RT}
    (h : ∀ A f s x y (Q : Value → Shared → Prop) E, Room n A → (∀ a o, f a = some o → s.heap.get? a = some o) → Rep f v x → Rep f w y →
      (∀ x' f' h' tk, Ok W f f' s.heap h' → r.den f s.heap f' h' x' → Q x' { s with heap := h', toks := tk }) → wpAny W.M A (t x y) Q E s) : Op W n (op2 t) [v, w] r := by
  intro A f s xs Q E hr hb hs hv hQ
  obtain ⟨x, y, rfl, hx, hy⟩ := hv.two_inv
  exact h A f s x y Q E hr hs hx hy hQ
theorem Op.itemL {xs : List V} {i : Int} {v : V} (h0 : 0 ≤ i) (h1 : i < 1000000) (hv : xs[i.toNat]? = some v) : Op W n (op2 getItem) [.list xs, .int i] (.val v) :=
  Op2.mk fun A f s x y Q E hr hs hx hy hQ => by
    obtain ⟨l, vs, m, rfl, hl, hvs⟩ := hx.list_inv
    obtain ⟨u, rfl⟩ := hy.int_inv
    obtain ⟨z, hz, hzr⟩ := hvs.get hv
    refine wpAny_getItem_list (isList (hs _ _ hl)) h0 (by have : (2:Int)^63 = 9223372036854775808 := by decide
                                                          omega) (by simpa using hz) (hQ _ f s.heap s.toks (Ok.refl hs) hzr)
end Mine
end

/-! part M7 -/
section
open PySem PySem.W PyProof.Rows PySem.Calls
namespace Mine
variable {W : Wd} {n : Nat} {sc : Scope} {ρ : List Bd}

/-- a def of the text, as the top leaves it -/
noncomputable def DefAt (W : Wd) (x : Str) (params : Arguments) (body : List Stmt) (scope : Scope) : Prop :=
  ∃ a o pm cd doc, W.mg x = some (.ref a) ∧ W.base.get? a = some o ∧ o.data = .func (docDef x params body scope pm cd doc) ∧ W.base.CodeRec cd x

noncomputable def DefAtC (W : Wd) (x : Str) (params : Arguments) (body : List Stmt) (scope : Scope) (cd : Value) : Prop :=
  ∃ a o pm doc, W.mg x = some (.ref a) ∧ W.base.get? a = some o ∧ o.data = .func (docDef x params body scope pm cd doc) ∧ W.base.CodeRec cd x
theorem lookup_zip_nth {names : List Str} {xs : List Value} (hn : names.Nodup) (hl : xs.length = names.length) {i : Nat} {y : Str} (h : names[i]? = some y) : (names.zip xs).lookup y = xs[i]? := by
  induction names generalizing xs i with
  | nil => simp at h
  | cons a r ih =>
    cases xs with
    | nil => simp at hl
    | cons x xs =>
      cases i with
      | zero => simp at h; subst h; simp
      | succ i =>
        simp at h
        have hne : y ≠ a := by rintro rfl; exact (List.nodup_cons.mp hn).1 (List.mem_of_getElem? h)
        have : (y == a) = false := by simpa using hne
        simp only [List.zip_cons_cons, List.lookup_cons, this]
        rw [ih (List.nodup_cons.mp hn).2 (by simpa using hl) h]; simp
theorem lookup_zip_none {names : List Str} {xs : List Value} {y : Str} (h : y ∉ names) : (names.zip xs).lookup y = none := by
  induction names generalizing xs with
  | nil => simp
  | cons a r ih =>
    cases xs with
    | nil => simp
    | cons x xs =>
      have hne : (y == a) = false := by simp at h ⊢; exact h.1
      simp only [List.zip_cons_cons, List.lookup_cons, hne]
      exact ih (by simp at h; exact h.2)
theorem bindL_eq {k : Str → Option NameKind} {y : Str} (hk : k y = some .local) : ∀ (binds : List (Str × Value)) (m : Str → Option Value), (binds.map (·.1)).Nodup →
    bindL k binds m y = (match binds.lookup y with | some v => some v | none => m y)
  | [], m, _ => rfl
  | (a, v) :: r, m, hn => by
    simp only [List.map_cons, List.nodup_cons] at hn
    rw [bindL, bindL_eq hk r _ hn.2]
    by_cases h : y = a
    · subst h
      have : r.lookup y = none := by
        rw [List.lookup_eq_none_iff]; intro p hp
        simp; rintro rfl; exact hn.1 (List.mem_map_of_mem hp)
      simp [this, hk]
    · have hb : (y == a) = false := by simpa using h
      simp only [List.lookup_cons, hb]
      cases r.lookup y with
      | some _ => rfl
      | none => dsimp only; split <;> simp [h]
theorem bindC_eq {k : Str → Option NameKind} {y : Str} (hk : k y = some .cell) : ∀ (binds : List (Str × Value)) (m : Str → Option Value), (binds.map (·.1)).Nodup →
    bindC k binds m y = (match binds.lookup y with | some v => some v | none => m y)
  | [], m, _ => rfl
  | (a, v) :: r, m, hn => by
    simp only [List.map_cons, List.nodup_cons] at hn
    rw [bindC, bindC_eq hk r _ hn.2]
    by_cases h : y = a
    · subst h
      have : r.lookup y = none := by
        rw [List.lookup_eq_none_iff]; intro p hp
        simp; rintro rfl; exact hn.1 (List.mem_map_of_mem hp)
      simp [this, hk]
    · have hb : (y == a) = false := by simpa using h
      simp only [List.lookup_cons, hb]
      cases r.lookup y with
      | some _ => rfl
      | none => dsimp only; split <;> simp [h]

/-- what is asked of a def's scope and parameters; all by computation -/
structure FnOk (x : Str) (params : Arguments) (body : List Stmt) (scope : Scope) (names : List Str) : Prop where
  nodup : (vnames scope).Nodup
  plain : ∀ y ∈ vnames scope, (y == ("__debug__" : Str)) = false ∧ (y == ("__classdict__" : Str)) = false
  first : (vnames scope).take names.length = names
  kind : scope.kind = .function
  co : scope.isCoroutine = false
  gen : scope.isGenerator = false
  kinds : ∀ y ∈ vnames scope, scope.names.lookup y = some .local ∨ (scope.names.lookup y = some .cell ∧ y ∈ (cellsFrom 0 scope.names []).map (·.1))
  cellk : ∀ y ∈ (cellsFrom 0 scope.names []).map (·.1), scope.names.lookup y = some .cell
  bind : ∀ pm cd doc (xs : List Value), xs.length = names.length → bindArgs (docDef x params body scope pm cd doc) ⟨xs, []⟩ = pure (names.zip xs)

theorem cellsFrom_lookup {y : Str} : ∀ (l : List (Str × NameKind)) (k : Nat) (acc : List (Str × Addr)), (y ∈ (cellsFrom k l acc).map (·.1)) → ((cellsFrom k l acc).lookup y).isSome = true := fun l k acc h => by
  obtain ⟨p, hp, rfl⟩ := List.mem_map.mp h
  cases q : (cellsFrom k l acc).lookup p.1 with
  | some _ => rfl
  | none => rw [List.lookup_eq_none_iff] at q; simpa using q p hp
theorem cellsFrom_fst : ∀ (l : List (Str × NameKind)) (j k : Nat) (acc acc' : List (Str × Addr)), acc.map (·.1) = acc'.map (·.1) → (cellsFrom j l acc).map (·.1) = (cellsFrom k l acc').map (·.1)
  | [], _, _, _, _, h => h
  | (a, kd) :: r, j, k, acc, acc', h => by
    unfold cellsFrom
    split
    · exact cellsFrom_fst r _ _ _ _ (by simp [h])
    · exact cellsFrom_fst r _ _ _ _ h

noncomputable def fnPost (res : V) (o : Out) (_ : List Bd) : Prop :=
  match o with
  | .ret v => v = res
  | .next => res = .none
  | _ => False

theorem len_0 {α : Type} {xs : List α} (h : xs.length = 0) : xs = [] := List.eq_nil_of_length_eq_zero h
theorem len_s {α : Type} {xs : List α} {n : Nat} (h : xs.length = n + 1) : ∃ a r, xs = a :: r ∧ r.length = n := by
  cases xs with
  | nil => cases h
  | cons a r => exact ⟨a, r, rfl, Nat.succ.inj h⟩
theorem len_1 {α : Type} {xs : List α} (h : xs.length = 1) : ∃ a, xs = [a] := by
  obtain ⟨a, r, e, g⟩ := len_s h
  exact ⟨a, by rw [e, len_0 g]⟩
theorem len_2 {α : Type} {xs : List α} (h : xs.length = 2) : ∃ a b, xs = [a, b] := by
  obtain ⟨a, r, e, g⟩ := len_s h
  obtain ⟨b, e'⟩ := len_1 g
  exact ⟨a, b, by rw [e, e']⟩
theorem len_3 {α : Type} {xs : List α} (h : xs.length = 3) : ∃ a b c, xs = [a, b, c] := by
  obtain ⟨a, r, e, g⟩ := len_s h
  obtain ⟨b, c, e'⟩ := len_2 g
  exact ⟨a, b, c, by rw [e, e']⟩
theorem len_4 {α : Type} {xs : List α} (h : xs.length = 4) : ∃ a b c d, xs = [a, b, c, d] := by
  obtain ⟨a, r, e, g⟩ := len_s h
  obtain ⟨b, c, d, e'⟩ := len_3 g
  exact ⟨a, b, c, d, by rw [e, e']⟩
theorem len_5 {α : Type} {xs : List α} (h : xs.length = 5) : ∃ a b c d e, xs = [a, b, c, d, e] := by
  obtain ⟨a, r, e, g⟩ := len_s h
  obtain ⟨b, c, d, f, e'⟩ := len_4 g
  exact ⟨a, b, c, d, f, by rw [e, e']⟩
theorem callE {A : Around} {f : FH} {s : Shared} {xs : List Value} {Q : Value → Shared → Prop} {E : Value → Shared → Prop} {a : Addr} {o : Obj} {pm cd doc : Value} {x : Str} {params : Arguments} {body : List Stmt} {scope : Scope} {names : List Str} {vs : List V}
    (h2 : W.base.get? a = some o) (h3 : o.data = .func (docDef x params body scope pm cd doc)) (h4 : W.base.CodeRec cd x) (ok : FnOk x params body scope names) (hlen : vs.length = names.length)
    (hr : Room (n + 1) A) (hb : Bs W f s.heap) (hs : ∀ a o, f a = some o → s.heap.get? a = some o) (hv : Reps f vs xs)
    (h : ∀ env h₁ tk, env.code = cd → env.qual = x ++ ".<locals>." → env.frame = some env.locals → (∀ b ob, s.heap.get? b = some ob → h₁.get? b = some ob) → s.heap.get? env.locals = none →
      St (fun _ => True) W n scope (vs.map .imm ++ List.replicate ((vnames scope).length - names.length) .unb) env (A.deeper env) s.heap.get? f h₁ →
      wpAny W.M (A.deeper env) (execs body env) (fun fl s' => Q (match fl with | .ret v => v | _ => .none) s') (fun e s' => wpAny W.M (A.deeper env) (leaving env e) (fun _ s'' => E e s'') (fun e' s'' => E e' s'') s') { s with heap := h₁, toks := tk }) :
    wpAny W.M A (call (.ref a) xs) Q E s := by
  have hxl : xs.length = names.length := by rw [hv.length, hlen]
  have bk : ∀ b ob, W.base.get? b = some ob → s.heap.get? b = some ob := fun b ob e => hs b ob (hb.le b ob e)
  have hnn : names.Nodup := by rw [← ok.first]; exact (List.take_sublist _ _).nodup ok.nodup
  have hzn : ((names.zip xs).map (·.1)) = names := by rw [List.map_fst_zip]; exact Nat.le_of_eq hxl.symm
  have hle : names.length ≤ (vnames scope).length := by
    have := List.length_take_le' names.length (vnames scope)
    rwa [ok.first] at this
  have hmemv : ∀ y ∈ names, y ∈ vnames scope := fun y hy => by rw [← ok.first] at hy; exact List.mem_of_mem_take hy
  have hkinds : ∀ y ∈ vnames scope, scope.names.lookup y = some .local ∨ (scope.names.lookup y = some .cell ∧ ((cellsFrom (s.heap.objs.size + 1) scope.names []).lookup y).isSome = true) := fun y hy => by
    rcases ok.kinds y hy with q | ⟨q, q'⟩
    · exact .inl q
    · exact .inr ⟨q, cellsFrom_lookup _ _ _ (by rw [cellsFrom_fst _ _ 0 _ [] rfl]; exact q')⟩
  refine wpAny_call (call_cells (R := fun r s' => match r with | .ok (.ret v) => Q v s' | .ok _ => False | .error e => E e s') hr.lim (bk _ _ h2) h3 (W.nolimit.keeps bk) (h4.keeps bk) (ok.bind pm cd doc xs hxl) ?_ ?_ ok.co ok.gen ok.kind)
  · intro p hp
    exact hkinds p.1 (hmemv _ (by have := List.mem_map_of_mem (f := (·.1)) hp; rwa [hzn] at this))
  · intro h₁ tk F X
    have keep := F.keep
    have hfr : ∀ a o, f a = some o → h₁.get? a = some o := fun a o e => keep a o (hs a o e)
    refine h (envOfC x scope s.heap.objs.size a cd) h₁ tk rfl rfl rfl keep (size_none _) ?_
    · refine { pre := ⟨⟨rfl, ok.kind, rfl, rfl, ok.nodup, ok.plain⟩, hr.deeper _, hb.keep keep, hfr, ?_⟩, pin := Pin.self.keep keep, ns := ⟨_, F.ns⟩, locP := size_none _, locF := new_none hs (size_none _), cell := ?_, apart := fun x1 c1 _ e1 y1 c2 e2 hne q => hne (name_of_addr X.apart (q ▸ mem_of_lookup e2) (mem_of_lookup e1)), len := ?_, capt := ?_ }
      · intro i b hi
        have hil : i < (vnames scope).length := by
          have := (List.getElem?_eq_some_iff.mp hi).1
          rwa [List.length_append, List.length_map, List.length_replicate, hlen, Nat.add_sub_cancel' hle] at this
        have hy := List.getElem?_eq_getElem hil
        refine ⟨(vnames scope)[i], (names.zip xs).lookup (vnames scope)[i], hy, ?_, ?_⟩
        · have hmem : (vnames scope)[i] ∈ vnames scope := List.getElem_mem hil
          rcases hkinds _ hmem with q | ⟨q, q'⟩
          · refine .inl ⟨q, _, F.ns, ?_⟩
            rw [bindL_eq (k := (envOfC x scope s.heap.objs.size a cd).kindOf) q _ _ (by rw [hzn]; exact hnn)]
            cases (names.zip xs).lookup (vnames scope)[i] <;> rfl
          · obtain ⟨c, hc⟩ := Option.isSome_iff_exists.mp q'
            refine .inr ⟨.inl q, c, hc, ?_⟩
            have := X.cell _ c hc
            rw [bindC_eq (k := (envOfC x scope s.heap.objs.size a cd).kindOf) q _ _ (by rw [hzn]; exact hnn)] at this
            have e : (match (names.zip xs).lookup (vnames scope)[i] with | some v => some v | none => none) = (names.zip xs).lookup (vnames scope)[i] := by cases (names.zip xs).lookup (vnames scope)[i] <;> rfl
            rw [e] at this
            exact this
        · by_cases hin : i < names.length
          · have hyn : names[i]? = some (vnames scope)[i] := by
              have : names[i]? = ((vnames scope).take names.length)[i]? := by rw [ok.first]
              rw [this, List.getElem?_take_of_lt hin, hy]
            rw [lookup_zip_nth hnn hxl hyn]
            rw [List.getElem?_append_left (by simpa [hlen] using hin), List.getElem?_map] at hi
            obtain ⟨v, hv1, rfl⟩ := Option.map_eq_some_iff.mp hi
            obtain ⟨z, hz, hzr⟩ := hv.get hv1
            exact ⟨z, hz, hzr⟩
          · have hni : (vnames scope)[i] ∉ names := by
              intro hm
              rw [← ok.first] at hm
              obtain ⟨j, hj⟩ := List.getElem?_of_mem hm
              have hjl : j < names.length := by
                have := (List.getElem?_eq_some_iff.mp hj).1
                rw [List.length_take] at this; exact Nat.lt_of_lt_of_le this (Nat.min_le_left ..)
              rw [List.getElem?_take_of_lt hjl] at hj
              have := nodup_idx ok.nodup hj hy
              subst this; exact hin hjl
            rw [lookup_zip_none hni]
            rw [List.getElem?_append_right (by rw [List.length_map, hlen]; exact Nat.le_of_not_lt hin)] at hi
            have := List.getElem?_eq_some_iff.mp hi
            obtain ⟨_, this⟩ := this
            rw [List.getElem_replicate] at this
            subst this; rfl
      · intro y c _ hk hc
        have hlt : s.heap.objs.size < c := X.above y c (mem_of_lookup hc)
        have hcn : s.heap.get? c = none := by
          cases q : s.heap.get? c with
          | none => rfl
          | some o' => exact absurd (Heap.lt_size q) (Nat.not_lt.mpr (Nat.le_of_lt hlt))
        exact ⟨hcn, new_none hs hcn, _, X.cell y c hc⟩
      · have := congrArg List.length ok.first; rw [List.length_take] at this
        simp [hlen]
        show names.length + ((vnames scope).length - names.length) = (vnames scope).length
        exact Nat.add_sub_cancel' hle
      · intro y c h hc
        refine absurd (ok.cellk y ?_) (h trivial)
        have := List.mem_map_of_mem (f := (·.1)) (mem_of_lookup hc)
        rw [show (envOfC x scope s.heap.objs.size a cd).cells = cellsFrom (s.heap.objs.size + 1) scope.names [] from rfl, cellsFrom_fst _ _ 0 _ [] rfl] at this
        exact this
theorem CallOk.ofE {cd : Value} {x : Str} {params : Arguments} {body : List Stmt} {scope : Scope} {names : List Str} {vs : List V} {res : V} (d : DefAtC W x params body scope cd) (ok : FnOk x params body scope names) (hlen : vs.length = names.length)
    (h : ∀ env A P f s (Q : Flow → Shared → Prop) (E : Value → Shared → Prop), env.code = cd → env.qual = x ++ ".<locals>." → St (fun _ => True) W n scope (vs.map .imm ++ List.replicate ((vnames scope).length - names.length) .unb) env A P f s.heap →
      (∀ fl o ρ' f' h' tk, Gr P f f' → St (fun _ => True) W n scope ρ' env A P f' h' → FlowOk f' o fl → fnPost res o ρ' → Q fl { s with heap := h', toks := tk }) → wpAny W.M A (execs body env) Q E s) : CallOk W (n + 1) x vs (.val res) := by
  obtain ⟨a, o, pm, doc, h1, h2, h3, h4⟩ := d
  refine ⟨a, o, _, h1, h2, h3, ?_⟩
  intro A f s xs Q E hr hb hs hv hQ
  refine callE h2 h3 h4 ok hlen hr hb hs hv fun env h₁ tk ec eq _ _ _ st => ?_
  refine h env _ s.heap.get? f { s with heap := h₁, toks := tk } _ _ ec eq st ?_
  intro fl o ρ' f' h' tk' g st' fo hp
  have kk : Ok W f f' s.heap h' := ⟨fun a o e c => (st'.pin a o e).1 c, fun a o e c => (st'.pin a o e).2 c, fun _ => st'.pre.base.tabs, g.le, st'.pre.sub, fun a o e => g.new a o e⟩
  cases o with
  | next => cases fl with
    | next => obtain rfl : res = .none := hp; exact hQ _ f' h' tk' kk .none
    | _ => exact fo.elim
  | ret v => cases fl with
    | ret v' => obtain rfl : v = res := hp; exact hQ _ f' h' tk' kk fo
    | _ => exact fo.elim
  | _ => exact hp.elim
theorem CallOk.of {x : Str} {params : Arguments} {body : List Stmt} {scope : Scope} {names : List Str} {vs : List V} {res : V} (d : DefAt W x params body scope) (ok : FnOk x params body scope names) (hlen : vs.length = names.length)
    (h : HS W n scope (vs.map .imm ++ List.replicate ((vnames scope).length - names.length) .unb) body (fnPost res)) : CallOk W (n + 1) x vs (.val res) := by
  obtain ⟨a, o, pm, cd, doc, h1, h2, h3, h4⟩ := d
  exact CallOk.ofE (cd := cd) ⟨a, o, pm, doc, h1, h2, h3, h4⟩ ok hlen fun env A P f s Q E _ _ st hQ => h env A P f s Q E st hQ
end Mine
end

/-! part M6 -/
section
open PySem PySem.W PyProof.Rows PySem.Calls
namespace Mine
variable {W : Wd} {n : Nat} {sc : Scope} {ρ : List Bd}

/-! method calls -/
noncomputable def tyOf : V → Option String
  | .str _ => some "str" | .list _ => some "list" | .tuple _ => some "tuple" | .dict _ => some "dict" | .int _ => some "int" | _ => none
theorem Rep.meth {f : FH} {s : Shared} {x : Value} {v : V} {T : String} (hs : ∀ a o, f a = some o → s.heap.get? a = some o) (r : Rep f v x) (h : tyOf v = some T) :
    s.TypeIs x T ∧ (∀ a, x = .ref a → ∃ ob, s.heap.get? a = some ob ∧ ob.dict = Option.none) := by
  cases r with
  | none => cases h
  | bool b => cases h
  | int i t => cases h; exact ⟨rfl, fun a e => by cases e⟩
  | str x t => cases h; exact ⟨rfl, fun a e => by cases e⟩
  | list e _ => cases h; exact ⟨⟨_, hs _ _ e, rfl⟩, fun a q => by cases q; exact ⟨_, hs _ _ e, rfl⟩⟩
  | tuple e _ => cases h; exact ⟨⟨_, hs _ _ e, rfl⟩, fun a q => by cases q; exact ⟨_, hs _ _ e, rfl⟩⟩
  | dict _ e _ => cases h; exact ⟨⟨_, hs _ _ e, rfl⟩, fun a q => by cases q; exact ⟨_, hs _ _ e, rfl⟩⟩
  | range e => cases h
  | slice e _ _ _ => cases h
  | ty T => cases h
  | obj a => cases h
theorem HE.meth {o : Expr} {name : Str} {apos pos : Pos} {e : Expr} {rest : List Expr} {T id : String} {v : V} {vs : List V} {r : RT}
    (ho : HE W n sc ρ o (.val v)) (ha : HA W n sc ρ pos (e :: rest) vs) (hop : Op W n (fun xs => call (.builtin id) xs) (v :: vs) r) (hT : tyOf v = some T) (pa : PlainAttrs T) (slot : Slot T name id) (hty : typeOf (.builtin id) = pure (.type "method_descriptor"))
    (hbase : ∀ env, attributeBase o name env (eval o env) = eval o env := by intro _; rfl)
    (hfew : ∀ env, ((backTo pos (starEach (e :: rest) env)).all (fun x => !x.1) && (backToKw pos (keywordEach [] env)).all (fun x => x.1.isSome)
      && decide ((e :: rest).length + ([] : List Keyword).length + (if ([] : List Keyword).isEmpty then 0 else 1) < 30)) = true := by intro _; rfl)
    (hline : (apos.endLine == pos.line) = true := by rfl)
    (he : ∀ env, starEach (e :: rest) env = (false, eval e env) :: starEach rest env := by intro _; rfl) (hpl : ∀ env, (backTo pos (starEach rest env)).any (·.1) = false := by intro _; rfl) :
    HE W n sc ρ (.Call (.Attribute o name apos) (e :: rest) [] pos) r := by
  intro env A P f s Q E p hQ
  refine wpAny_Call_method (hbase env) (hfew env) hline pa slot hty (ho env A P f s _ E p fun x f₁ h₁ tk₁ k₁ r₁ => ?_)
  have p1 := p.step k₁
  have hm := Rep.meth (s := { s with heap := h₁, toks := tk₁ }) p1.sub r₁ hT
  refine ⟨hm.1, hm.2, ?_⟩
  have hA := ha env A P f₁ { s with heap := h₁, toks := tk₁ } (fun xs s' => wpAny W.M A (call (.builtin id) (x :: xs)) Q E s') E p1 fun xs f₂ h₂ tk₂ k₂ r₂ => ?_
  · dsimp only at hA
    rw [he env] at hA ⊢
    exact callWith_builtin (by show (false || (backTo pos (starEach rest env)).any (·.1)) = false; rw [hpl env]; rfl) (evalArgs_plain hA)
  · have p2 := p1.step k₂
    refine hop A f₂ { s with heap := h₂, toks := tk₂ } (x :: xs) Q E p.room p2.base p2.sub (.cons (Rep.mono k₂.le r₁) r₂) fun z f₃ h₃ tk₃ k₃ r₃ => ?_
    exact hQ z f₃ h₃ tk₃ ((k₁.trans k₂).trans k₃) (RT.anti (k₁.trans k₂) r₃)
theorem HE.meth0 {o : Expr} {name : Str} {apos pos : Pos} {T id : String} {v : V} {r : RT}
    (ho : HE W n sc ρ o (.val v)) (hop : Op W n (fun xs => call (.builtin id) xs) [v] r) (hT : tyOf v = some T) (pa : PlainAttrs T) (slot : Slot T name id) (hty : typeOf (.builtin id) = pure (.type "method_descriptor"))
    (hbase : ∀ env, attributeBase o name env (eval o env) = eval o env := by intro _; rfl)
    (hline : (apos.endLine == pos.line) = true := by rfl) :
    HE W n sc ρ (.Call (.Attribute o name apos) [] [] pos) r := by
  intro env A P f s Q E p hQ
  refine wpAny_Call_method (hbase env) (by rfl) hline pa slot hty (ho env A P f s _ E p fun x f₁ h₁ tk₁ k₁ r₁ => ?_)
  have p1 := p.step k₁
  have hm := Rep.meth (s := { s with heap := h₁, toks := tk₁ }) p1.sub r₁ hT
  refine ⟨hm.1, hm.2, ?_⟩
  refine callWith_builtin (by rfl) (PySem.evalArgs_none ?_)
  refine hop A f₁ { s with heap := h₁, toks := tk₁ } [x] Q E p.room p1.base p1.sub (.one r₁) fun z f₃ h₃ tk₃ k₃ r₃ => ?_
  exact hQ z f₃ h₃ tk₃ (k₁.trans k₃) (RT.anti k₁ r₃)
theorem OpC.bits {a : Int} : Op W n (fun as => call (.builtin "int.bit_length") as) [.int a] (.val (.int (Builtin.Int.intBits a))) :=
  OpC.one fun A f s x Q E hr hs hx hQ => by
    obtain ⟨t, rfl⟩ := hx.int_inv
    exact call_int_bit_length (hQ _ f s.heap _ (Ok.refl hs) (.int _ _))
theorem OpC.lower {a : Str} (h : a.length ≤ 1000000) : Op W n (fun as => call (.builtin "str.lower") as) [.str a] (.val (.str (Txt.lower a))) :=
  OpC.one fun A f s x Q E hr hs hx hQ => by
    obtain ⟨t, rfl⟩ := hx.str_inv
    exact PyProof.Rows.SCL.lower (by omega) (fun _ => hQ _ f s.heap _ (Ok.refl hs) (.str _ _))
theorem Reps.strs {f : FH} : ∀ {ns : List Str} {xs : List Value}, Reps f (ns.map .str) xs → ∃ l : List (Str × Tok), strValues l = xs ∧ l.map (·.1) = ns
  | [], _, h => by cases h; exact ⟨[], rfl, rfl⟩
  | a :: r, _, h => by
    cases h with
    | cons h1 h2 =>
      obtain ⟨t, rfl⟩ := h1.str_inv
      obtain ⟨l, h3, h4⟩ := h2.strs
      exact ⟨(a, t) :: l, by rw [← h3]; rfl, by simp [h4]⟩
theorem Reps.of_strs {f : FH} : ∀ (l : List (Str × Tok)), Reps f ((l.map (·.1)).map .str) (strValues l)
  | [] => .nil
  | (a, t) :: r => .cons (.str a t) (Reps.of_strs r)
theorem OpC.join {a : Str} {ns : List Str} (h : JoinOk a ns = true) : Op W n (fun as => call (.builtin "str.join") as) [.str a, .list (ns.map .str)] (.val (.str (Txt.join a ns))) :=
  OpC.two fun A f s x y Q E hr hs hx hy hQ => by
    obtain ⟨t, rfl⟩ := hx.str_inv
    obtain ⟨l, vs, m, rfl, hl, hv⟩ := hy.list_inv
    obtain ⟨p, h1, h2⟩ := hv.strs
    exact PySem.SC.join (by rw [h1]; exact isList (hs _ _ hl)) h2 h fun t' k => hQ _ f s.heap k (Ok.refl hs) (.str _ _)
theorem split_end {A : Around} {f : FH} {s : Shared} {a b : Str} {k : Nat} {l : List (Str × Tok)} {Q : Value → Shared → Prop} (hs : ∀ a o, f a = some o → s.heap.get? a = some o) (hl : l.map (·.1) = Txt.split a b)
    (hQ : ∀ x' f' h' tk, Ok W f f' s.heap h' → Rep f' (.list ((Txt.split a b).map .str)) x' → Q x' { s with heap := h', toks := tk }) :
    Q (.ref s.heap.objs.size) { s with toks := k, heap := s.heap.push { cls := .type "list", data := .seq (strValues l).toArray } } := by
  have hn := new_none hs (size_none s.heap)
  refine hQ _ (fz f s.heap.objs.size (lobj (strValues l) 0)) _ _ ((ok_push hs).freeze (size_none _) hn (Heap.get?_push_size _ rfl)) (.list fz_self ?_)
  rw [← hl]; exact Reps.of_strs l
open Builtin Builtin.Str in
theorem OpC.split {a b : Str} (hb : (b.length == 0) = false) (ha : a.length ≤ 100000) :
    Op W n (fun as => call (.builtin "str.split") as) [.str a, .str b] (.val (.list ((Txt.split a b).map .str))) :=
  OpC.two fun A f s x y Q E hr hs hx hy hQ => by
    obtain ⟨t, rfl⟩ := hx.str_inv
    obtain ⟨u, rfl⟩ := hy.str_inv
    have hsz : a.length ≤ sizeLine := by rw [sizeLine_eq]; omega
    have hn : (partsBetween a (occurrences a b 0 a.length (a.length + 1)) b.length).length ≤ sizeLine := by
      have e1 := StrLaws.occ_length_le a b 0 a.length (a.length + 1)
      rw [length_partsBetween, sizeLine_eq]; omega
    cases h1 : (decide (a.length < b.length) || decide (strKind a < strKind b)) with
    | false =>
      cases hf : (occurrences a b 0 a.length (a.length + 1)).isEmpty with
      | false =>
        refine call_meets F.slot_str_split (typeIs_str _ _ _) F.entry_str_split (F.args_str_split_2 _ _) (meets_str_split_sep a b t u h1 hb hf hsz hn) ?_
        show wants Q E _ { s with toks := _, heap := s.heap.push { cls := .type "list", data := .seq (strsFrom s.toks (partsBetween a (occurrences a b 0 a.length (a.length + 1)) b.length)).toArray } }
        rw [strsFrom_eq]
        exact split_end (A := A) hs ((numbered_texts _ _).trans ((if_neg (ne_true_of_eq_false h1)).trans (if_neg (ne_true_of_eq_false hf))).symm) hQ
      | true =>
        exact call_meets F.slot_str_split (typeIs_str _ _ _) F.entry_str_split (F.args_str_split_2 _ _) (meets_str_split_not_found a b t u h1 hb hf)
          (split_end (A := A) (k := s.toks) (l := [(a, t)]) hs ((if_neg (ne_true_of_eq_false h1)).trans (if_pos hf)).symm hQ)
    | true =>
      exact call_meets F.slot_str_split (typeIs_str _ _ _) F.entry_str_split (F.args_str_split_2 _ _) (meets_str_split_cannot_occur a b t u h1)
        (split_end (A := A) (k := s.toks) (l := [(a, t)]) hs (if_pos h1).symm hQ)

/-! lists -/
theorem Op.addL {xs ys : List V} (h : xs.length + ys.length ≤ 1000000) : Op W n (op2 (binaryOp .Add)) [.list xs, .list ys] (.freshL (xs ++ ys)) :=
  Op2.mk fun A f s x y Q E hr hs hx hy hQ => by
    obtain ⟨l, vs, m, rfl, hl, hv⟩ := hx.list_inv
    obtain ⟨l2, vs2, m2, rfl, hl2, hv2⟩ := hy.list_inv
    refine PySem.P.add_list (hs _ _ hl) (hs _ _ hl2) ?_ (by rw [hv.arr, hv2.arr, sizeLine_eq]; omega)
    refine hQ _ f _ s.toks (ok_push hs) ⟨_, vs ++ vs2, 0, rfl, size_none _, new_none hs (size_none _), ?_, hv.append hv2⟩
    rw [Heap.get?_push_size _ rfl]; simp [lobj]
theorem foldl_app (xs : Array Value) : ∀ (k : Nat) (acc : Array Value), (List.foldl (fun x1 x2 => x1 ++ x2) acc (List.replicate k xs)).toList = acc.toList ++ (List.replicate k xs.toList).flatten
  | 0, acc => by simp
  | k + 1, acc => by rw [List.replicate_succ, List.foldl_cons, foldl_app xs k]; simp [List.replicate_succ]
theorem Reps.rep {f : FH} {v : V} {x : Value} (r : Rep f v x) : ∀ k, Reps f (List.replicate k v) (List.replicate k x)
  | 0 => .nil
  | k + 1 => .cons r (Reps.rep r k)
theorem Op.mulL {v : V} {k : Int} (h1 : k ≤ 1000000) (h0 : -1000000 ≤ k) : Op W n (op2 (binaryOp .Mult)) [.list [v], .int k] (.freshL (List.replicate k.toNat v)) :=
  Op2.mk fun A f s x y Q E hr hs hx hy hQ => by
    obtain ⟨l, vs, m, rfl, hl, hv⟩ := hx.list_inv
    obtain ⟨u, rfl⟩ := hy.int_inv
    obtain ⟨z, rfl, hz⟩ := hv.one_inv
    have e63 : (2:Int)^63 = 9223372036854775808 := by decide
    have hL := hs _ _ hl
    refine wpAny_binaryOp_repeat_ref (T := "list") (U := "int") (by decide) ⟨_, hL, rfl⟩ (fun s' => typeIs_int s' k u) noFill_list_mul F.fills_int_mul F.slot_int_rmul repeat_list F.slot_int_index.lookup
      (call_meets F.slot_int_rmul (typeIs_int s k u) F.entry_int_rmul (F.args_int_rmul_2 _ _) (int___rmul___int_list k u l [z].toArray m) ⟨hL, rfl, ⟨_, hL, rfl⟩,
        call_meets F.slot_list_mul ⟨_, hL, rfl⟩ F.entry_list_mul (F.args_list_mul_2 _ _)
          (AutoListH.list___mul___list_int_3 l [z].toArray m k u (by simp [Builtin.List.listFitsIndex]; omega) (by simp; omega) (by simp [Builtin.List.listTooLong, sizeLine]; omega)) ⟨hL, ?_⟩⟩)
    refine hQ _ f _ s.toks (ok_push hs) ⟨_, List.replicate k.toNat z, 0, rfl, size_none _, new_none hs (size_none _), ?_, Reps.rep hz _⟩
    have e : (List.foldl (fun x1 x2 => x1 ++ x2) #[] (List.replicate k.toNat (#[z] : Array Value))) = (List.replicate k.toNat z).toArray := by
      apply Array.ext'
      rw [foldl_app]
      generalize k.toNat = j
      induction j with
      | zero => rfl
      | succ j ih => simp [List.replicate_succ] at ih ⊢; first | exact ih | skip
    rw [Heap.get?_push_size _ rfl]
    show some _ = some (lobj _ _)
    simp only [lobj]
    congr 2
    exact congrArg (Data.seq · _) e

/-! equality -/
theorem reads_strs {h : Heap} : ∀ (l : List (Str × Tok)), ReadsAll h (strValues l) ((l.map (·.1)).map PyData.str) []
  | [] => .nil
  | (a, t) :: r => by
    exact ReadsAll.cons (Reads.str (h := h) a t) (reads_strs (h := h) r)
theorem canLay_strs : ∀ ns : List Str, (∀ x ∈ ns, PyData.strOk x = true) → PyData.canLayAll0 (ns.map PyData.str) = true
  | [], _ => by simp [PyData.canLayAll0]
  | n :: r, h => by simp [PyData.canLayAll0, PyData.canLay0, canLay_strs r (fun x hx => h x (List.mem_cons_of_mem _ hx)), h n List.mem_cons_self]
theorem depth_strs : ∀ ns : List Str, PyData.depthAll (ns.map PyData.str) ≤ 1
  | [] => by simp [PyData.depthAll]
  | n :: r => by
    have := depth_strs r
    simp only [List.map_cons, PyData.depthAll, PyData.depth]
    omega
theorem shaped_strs (ns : List Str) (h : ∀ x ∈ ns, PyData.strOk x = true) : PySem.SeqAt.shaped (.list (ns.map PyData.str)) = true := by
  have h1 := depth_strs ns
  have h2 : PyData.depth (.list (ns.map PyData.str)) ≤ 64 := by simp only [PyData.depth]; omega
  show (PyData.canLay0 (.list (ns.map PyData.str)) && decide (PyData.depth (.list (ns.map PyData.str)) ≤ 64)) = true
  rw [Bool.and_eq_true]
  exact ⟨by simp only [PyData.canLay0]; exact canLay_strs ns h, decide_eq_true h2⟩
theorem noMix_strs : ∀ ns ms : List Str, PySem.SeqAt.noMixAll (ns.map PyData.str) (ms.map PyData.str) = true
  | [], [] => by simp [PySem.SeqAt.noMixAll]
  | [], _ :: _ => by simp [PySem.SeqAt.noMixAll]
  | _ :: _, [] => by simp [PySem.SeqAt.noMixAll]
  | _ :: r, _ :: q => by simp [PySem.SeqAt.noMixAll, PySem.SeqAt.noMix, noMix_strs r q]
theorem same_strs : ∀ ns ms : List Str, PySem.Spec.sameAll (ns.map PyData.str) (ms.map PyData.str) = decide (ns = ms)
  | [], [] => by simp [PySem.Spec.sameAll]
  | [], _ :: _ => by simp [PySem.Spec.sameAll]
  | _ :: _, [] => by simp [PySem.Spec.sameAll]
  | n :: r, k :: q => by
    simp only [List.map_cons, PySem.Spec.sameAll, PySem.Spec.same, same_strs r q]
    by_cases h : n = k <;> simp [h]
theorem reads_strL {h : Heap} {a : Addr} {l : List (Str × Tok)} (hl : h.IsList a (strValues l).toArray) : Reads h (.ref a) (.list ((l.map (·.1)).map PyData.str)) [a] := by
  obtain ⟨o, ho, hc, n, hd⟩ := hl
  exact Reads.list ho hc hd (by simpa using reads_strs l)
theorem Op.eqLS {xs ys : List Str} (ox : ∀ x ∈ xs, PyData.strOk x = true) (oy : ∀ x ∈ ys, PyData.strOk x = true) : Op W n (op2 (compareOp .Eq)) [.list (xs.map .str), .list (ys.map .str)] (.val (.bool (decide (xs = ys)))) :=
  Op2.mk fun A f s x y Q E hr hs hx hy hQ => by
    obtain ⟨l, vs, m, rfl, hl, hv⟩ := hx.list_inv
    obtain ⟨l2, vs2, m2, rfl, hl2, hv2⟩ := hy.list_inv
    have := hr.cl
    obtain ⟨p, rfl, rfl⟩ := hv.strs
    obtain ⟨q, rfl, rfl⟩ := hv2.strs
    exact eq_dataH_same (reads_strL (isList (hs _ _ hl))) (reads_strL (isList (hs _ _ hl2))) (shaped_strs _ ox) (shaped_strs _ oy) (by omega) (by simp only [PySem.SeqAt.noMix]; exact noMix_strs _ _)
      (by simp only [PySem.Spec.same]; rw [same_strs]; exact hQ _ f s.heap s.toks (Ok.refl hs) (.bool _))
theorem Op.neLS {xs ys : List Str} (ox : ∀ x ∈ xs, PyData.strOk x = true) (oy : ∀ x ∈ ys, PyData.strOk x = true) : Op W n (op2 (compareOp .NotEq)) [.list (xs.map .str), .list (ys.map .str)] (.val (.bool (!decide (xs = ys)))) :=
  Op2.mk fun A f s x y Q E hr hs hx hy hQ => by
    obtain ⟨l, vs, m, rfl, hl, hv⟩ := hx.list_inv
    obtain ⟨l2, vs2, m2, rfl, hl2, hv2⟩ := hy.list_inv
    have := hr.cl
    obtain ⟨p, rfl, rfl⟩ := hv.strs
    obtain ⟨q, rfl, rfl⟩ := hv2.strs
    exact ne_dataH_same (reads_strL (isList (hs _ _ hl))) (reads_strL (isList (hs _ _ hl2))) (shaped_strs _ ox) (shaped_strs _ oy) (by omega) (by simp only [PySem.SeqAt.noMix]; exact noMix_strs _ _)
      (by simp only [PySem.Spec.same]; rw [same_strs]; exact hQ _ f s.heap s.toks (Ok.refl hs) (.bool _))
noncomputable def isStrV (k : Str) : Value → Bool
  | .str y _ => y == k
  | _ => false
theorem any_isStrV (k : Str) : ∀ p : List (Str × Tok), (strValues p).any (isStrV k) = (p.map (·.1)).contains k
  | [] => rfl
  | a :: r => by
    show (isStrV k (.str a.1 a.2) || (strValues r).any (isStrV k)) = _
    rw [any_isStrV k r, List.map_cons, List.contains_cons]
    simp only [isStrV]
    rw [show (a.1 == k) = (k == a.1) from by rw [Bool.eq_iff_iff, beq_iff_eq, beq_iff_eq]; exact eq_comm]
theorem Op.inLS {k : Str} {xs : List Str} : Op W n (op2 (compareOp .In)) [.str k, .list (xs.map .str)] (.val (.bool (xs.contains k))) :=
  Op2.mk fun A f s x y Q E hr hs hx hy hQ => by
    obtain ⟨t, rfl⟩ := hx.str_inv
    obtain ⟨l, vs, m, rfl, hl, hv⟩ := hy.list_inv
    obtain ⟨p, rfl, rfl⟩ := hv.strs
    refine PySem.SeqAt.in_listAt (isStrV k) (isList (hs _ _ hl)) (fun y hy => ?_) ?_
    · have hm : y ∈ strValues p := by simpa using hy
      obtain ⟨z, hz, rfl⟩ := List.mem_map.mp hm
      intro prog w E Q hq
      refine wpAny_eqBool_str ?_
      have e : isStrV k (.str z.1 z.2) = decide (z.1 = k) := by simp only [isStrV]; rw [Bool.eq_iff_iff]; simp
      rw [← e]; exact hq
    · rw [List.any_toArray, any_isStrV]; exact hQ _ f s.heap s.toks (Ok.refl hs) (.bool _)
/-! slices -/
inductive HP (W : Wd) (n : Nat) (sc : Scope) (ρ : List Bd) : Option Expr → Option Int → Prop where
  | no : HP W n sc ρ none none
  | nil {e : Expr} (h : HE W n sc ρ e (.val .none)) : HP W n sc ρ (some e) none
  | some {e : Expr} {i : Int} (h : HE W n sc ρ e (.val (.int i))) : HP W n sc ρ (some e) (some i)
theorem HP.run {e : Option Expr} {v : Option Int} (h : HP W n sc ρ e v) (env : Env) (A : Around) (P f : FH) (s : Shared) (Q : Value → Shared → Prop) (E : Value → Shared → Prop) (p : Pre W n sc ρ env A P f s.heap)
    (hQ : ∀ x f' h' tk, Ok W f f' s.heap h' → IsPart x v → Q x { s with heap := h', toks := tk }) : wpAny W.M A (evalPart e env) Q E s := by
  cases h with
  | no => exact wpAny_pure (hQ _ f s.heap s.toks p.ok .none)
  | nil h =>
    show wpAny W.M A (eval _ env) Q E s
    refine h env A P f s Q E p fun x f' h' tk k r => ?_
    obtain rfl := Rep.none_inv r; exact hQ _ f' h' tk k .none
  | some h =>
    show wpAny W.M A (eval _ env) Q E s
    refine h env A P f s Q E p fun x f' h' tk k r => ?_
    obtain ⟨t, rfl⟩ := Rep.int_inv r; exact hQ _ f' h' tk k (.int _ _)
theorem HE.slice {l u st : Option Expr} {p : Pos} {lo hi k : Option Int} (hl : HP W n sc ρ l lo) (hu : HP W n sc ρ u hi) (hst : HP W n sc ρ st k) : HE W n sc ρ (.Slice l u st p) (.val (.slice lo hi k)) := by
  intro env A P f s Q E p hQ
  refine wpAny_Slice (hl.run env A P f s _ E p fun x f₁ h₁ tk₁ k₁ r₁ => hu.run env A P f₁ _ _ E (p.step k₁) fun y f₂ h₂ tk₂ k₂ r₂ => hst.run env A P f₂ _ _ E ((p.step k₁).step k₂) fun z f₃ h₃ tk₃ k₃ r₃ => ?_)
  have p3 := (((p.step k₁).step k₂).step k₃)
  have k := (k₁.trans k₂).trans k₃
  have hn := new_none p3.sub (size_none h₃)
  exact hQ _ (fz f₃ h₃.objs.size _) _ tk₃ (k.trans ((ok_push p3.sub).freeze (size_none _) hn (Heap.get?_push_size _ rfl))) (.slice fz_self r₁ r₂ r₃)
theorem Op.sliceL {xs : List V} {lo hi st : Option Int} (h0 : st ≠ some 0) (hsz : xs.length ≤ 2 ^ 20) :
    Op W n (op2 getItem) [.list xs, .slice lo hi st] (.val (.list ((sliceRange (sliceBounds lo hi st xs.length).1 (sliceBounds lo hi st xs.length).2.1 (sliceBounds lo hi st xs.length).2.2).filterMap (xs[·]?)))) :=
  Op2.mk fun A f s x y Q E hr hs hx hy hQ => by
    obtain ⟨l, vs, m, rfl, hl, hv⟩ := hx.list_inv
    cases hy with
    | slice he pl pu ps =>
    refine wpAny_getItem_list_slice (isList (hs _ _ hl)) ⟨_, hs _ _ he, rfl, rfl⟩ pl pu ps h0 ?_ (by rw [hv.arr, sizeLine_eq]; omega)
    have hn := new_none hs (size_none s.heap)
    refine hQ _ (fz f s.heap.objs.size (lobj (slicePick vs.toArray lo hi st).toList 0)) _ s.toks ((ok_push hs).freeze (size_none _) hn ?_) (.list fz_self ?_)
    · rw [Heap.get?_push_size _ rfl]; simp [lobj]
    · have e : (slicePick vs.toArray lo hi st).toList = (sliceRange (sliceBounds lo hi st xs.length).1 (sliceBounds lo hi st xs.length).2.1 (sliceBounds lo hi st xs.length).2.2).filterMap (vs[·]?) := by
        simp [slicePick, hv.length]
      rw [e]
      have : ∀ (l : List Nat), Reps f (l.filterMap (xs[·]?)) (l.filterMap (vs[·]?)) := fun l => by
        induction l with
        | nil => exact .nil
        | cons i r ih =>
          cases q : xs[i]? with
          | none =>
            have : vs[i]? = none := by rw [List.getElem?_eq_none_iff] at q ⊢; rw [hv.length]; exact q
            simp [q, this, ih]
          | some v =>
            obtain ⟨z, hz, hzr⟩ := hv.get q
            simp [q, hz]
            exact .cons hzr ih
      exact Reps.mono (fz_le hn) (this _)
/-! str slices, items -/
theorem part_toP {v : Value} {o : Option Int} (h : IsPart v o) : ∃ p : Option (Int × Tok), v = partValue p ∧ p.map (·.1) = o := by
  cases h with
  | none => exact ⟨Option.none, rfl, rfl⟩
  | int i t => exact ⟨some (i, t), rfl, rfl⟩
theorem Op.sliceS {a : Str} {lo hi : Option Int} (hsz : a.length ≤ 1000000) : Op W n (op2 getItem) [.str a, .slice lo hi none] (.val (.str (Txt.slice a lo hi))) :=
  Op2.mk fun A f s x y Q E hr hs hx hy hQ => by
    obtain ⟨t, rfl⟩ := hx.str_inv
    cases hy with
    | slice he pl pu ps =>
    obtain ⟨p, rfl, rfl⟩ := part_toP pl
    obtain ⟨q, rfl, rfl⟩ := part_toP pu
    cases ps
    refine wpAny_getItem_str_slice (l := p) (u := q) (st := Option.none) ⟨_, hs _ _ he, rfl, rfl⟩ rfl ?_
    exact post_val_or_str ⟨Nat.le_trans (Txt.slice_le a _ _) (by rw [sizeLine_eq]; omega), fun t' k => hQ _ f s.heap _ (Ok.refl hs) (.str _ _)⟩
theorem Op.itemS {a : Str} {i : Int} {c : Nat} (h0 : -1000000 ≤ i) (h1 : i ≤ 1000000) (hc : (seqIndex? i a.length).bind (a.cps[·]?) = some c) : Op W n (op2 getItem) [.str a, .int i] (.val (.str ⟨#[c]⟩)) :=
  Op2.mk fun A f s x y Q E hr hs hx hy hQ => by
    obtain ⟨t, rfl⟩ := hx.str_inv
    obtain ⟨u, rfl⟩ := hy.int_inv
    have e63 : (2:Int)^63 = 9223372036854775808 := by decide
    refine PyProof.Rows.getItem_str (by simp; omega) hc (hQ _ f s.heap _ (Ok.refl hs) (.str _ _))

/-! reading what is still changed: frozen for one expression -/
theorem borrow_ok {f f' : FH} {h h' : Heap} {a : Addr} {o : Obj} (hs : ∀ a o, f a = some o → h.get? a = some o) (hf : f a = none) (k : Ok W (fz f a o) f' h h') :
    Ok W f (fun b => if b = a then f b else f' b) h h' where
  ext := k.ext
  tab := k.tab
  tabs := k.tabs
  le := fun b ob e => by
    have hb : b ≠ a := by rintro rfl; rw [hf] at e; cases e
    simp only [hb, if_false]
    exact k.le b ob (by simp [fz, hb, e])
  sub := fun b ob e => by
    by_cases hb : b = a
    · subst hb; simp [hf] at e
    · simp only [hb, if_false] at e; exact k.sub b ob e
  new := fun b ob e => by
    by_cases hb : b = a
    · subst hb; simp [hf] at e
    · simp only [hb, if_false] at e
      rcases k.new b ob e with q | q
      · left; simpa [fz, hb] using q
      · exact .inr q
theorem JX.borrowL {α : Type} {t : Env → Sem α} {R : FH → Heap → FH → Heap → α → Prop} (i : Nat) {xs : List V} (h : JX W n sc (ρ.set i (.imm (.list xs))) t R)
    (hv : ρ[i]? = some (.mutL xs)) (ho : ∀ j ys, j ≠ i → ρ[j]? ≠ some (.mutL ys)) (hR : ∀ {f f' g g' : FH} {h h' : Heap} {x : α}, R f h f' h' x → R g h g' h' x) : JX W n sc ρ t R := by
  intro env A P f s Q E p hQ
  obtain ⟨x, o, h1, h2, a, vs, m, rfl, ha, hr, hf, hP⟩ := p.vars i _ hv
  have ha' : fz f a (lobj vs m) a = some (lobj vs m) := fz_self
  have hle : Le f (fz f a (lobj vs m)) := fz_le hf
  have hne : ∀ b, b ≠ a → fz f a (lobj vs m) b = f b := fun b hb => by simp [fz, hb]
  refine h env A P (fz f a (lobj vs m)) s Q E ?_ fun y f' h' tk k r => ?_
  · exact {
      eok := p.eok
      room := p.room
      base := p.base.fz ha notTab_l hf
      sub := fun b ob e => by
        by_cases hb : b = a
        · subst hb; rw [ha'] at e; cases e; exact ha
        · rw [hne b hb] at e; exact p.sub b ob e
      vars := fun j bj e => by
        by_cases hj : j = i
        · subst hj
          have hlt : j < ρ.length := (List.getElem?_eq_some_iff.mp hv).1
          rw [List.getElem?_set_self hlt] at e
          cases e
          exact ⟨x, _, h1, h2, _, rfl, .list ha' (hr.mono hle)⟩
        · rw [List.getElem?_set_ne (Ne.symm hj)] at e
          obtain ⟨y, o, g1, g2, g3⟩ := p.vars j bj e
          refine ⟨y, o, g1, g2, ?_⟩
          cases bj with
          | unb => exact g3
          | imm v => obtain ⟨z, q, r⟩ := g3; exact ⟨z, q, r.mono hle⟩
          | mutL ys => exact absurd e (ho j ys hj)
          | mutD ys =>
            obtain ⟨b, es, m', q1, q2, q3, q4, q5, q6, q7, q8⟩ := g3
            refine ⟨b, es, m', q1, q2, q3, q4.mono hle, q5, ?_, q7, q8⟩
            rw [hne b (by rintro rfl; rw [ha] at q3; simp [lobj, dobj] at q3)]; exact q6 }
  · exact hQ y _ h' tk (borrow_ok p.sub hf k) (hR r)
theorem JX.borrowD {α : Type} {t : Env → Sem α} {R : FH → Heap → FH → Heap → α → Prop} (i : Nat) {xs : List (Int × V)} (h : JX W n sc (ρ.set i (.imm (.dict xs))) t R)
    (hv : ρ[i]? = some (.mutD xs)) (ho : ∀ j ys, j ≠ i → ρ[j]? ≠ some (.mutD ys)) (hR : ∀ {f f' g g' : FH} {h h' : Heap} {x : α}, R f h f' h' x → R g h g' h' x) : JX W n sc ρ t R := by
  intro env A P f s Q E p hQ
  obtain ⟨x, o, h1, h2, a, vs, m, rfl, hsm, ha, hr, hnd, hf, hP, haL⟩ := p.vars i _ hv
  have ha' : fz f a (dobj vs m) a = some (dobj vs m) := fz_self
  have hle : Le f (fz f a (dobj vs m)) := fz_le hf
  have hne : ∀ b, b ≠ a → fz f a (dobj vs m) b = f b := fun b hb => by simp [fz, hb]
  refine h env A P (fz f a (dobj vs m)) s Q E ?_ fun y f' h' tk k r => ?_
  · exact {
      eok := p.eok
      room := p.room
      base := p.base.fz ha notTab_d hf
      sub := fun b ob e => by
        by_cases hb : b = a
        · subst hb; rw [ha'] at e; cases e; exact ha
        · rw [hne b hb] at e; exact p.sub b ob e
      vars := fun j bj e => by
        by_cases hj : j = i
        · subst hj
          have hlt : j < ρ.length := (List.getElem?_eq_some_iff.mp hv).1
          rw [List.getElem?_set_self hlt] at e
          cases e
          exact ⟨x, _, h1, h2, _, rfl, .dict hsm ha' (hr.mono hle) hnd⟩
        · rw [List.getElem?_set_ne (Ne.symm hj)] at e
          obtain ⟨y, o, g1, g2, g3⟩ := p.vars j bj e
          refine ⟨y, o, g1, g2, ?_⟩
          cases bj with
          | unb => exact g3
          | imm v => obtain ⟨z, q, r⟩ := g3; exact ⟨z, q, r.mono hle⟩
          | mutD ys => exact absurd e (ho j ys hj)
          | mutL ys =>
            obtain ⟨b, es, m', q1, q3, q4, q6, q7⟩ := g3
            refine ⟨b, es, m', q1, q3, q4.mono hle, ?_, q7⟩
            rw [hne b (by rintro rfl; rw [ha] at q3; simp [lobj, dobj] at q3)]; exact q6 }
  · exact hQ y _ h' tk (borrow_ok p.sub hf k) (hR r)
noncomputable def V.plain : V → Bool
  | .none | .bool _ | .int _ | .str _ => true
  | _ => false
theorem Rep.plain {f g : FH} {v : V} {x : Value} (r : Rep f v x) (h : v.plain = true) : Rep g v x := by
  cases r <;> first | (simp [V.plain] at h; done) | constructor
theorem HE.borrowL (i : Nat) {e : Expr} {xs : List V} {v : V} (h : HE W n sc (ρ.set i (.imm (.list xs))) e (.val v)) (hv : ρ[i]? = some (.mutL xs)) (ho : ∀ j ys, j ≠ i → ρ[j]? ≠ some (.mutL ys)) (hp : v.plain = true := by rfl) : HE W n sc ρ e (.val v) :=
  JX.borrowL i h hv ho fun r => Rep.plain r hp
theorem HE.borrowD (i : Nat) {e : Expr} {xs : List (Int × V)} {v : V} (h : HE W n sc (ρ.set i (.imm (.dict xs))) e (.val v)) (hv : ρ[i]? = some (.mutD xs)) (ho : ∀ j ys, j ≠ i → ρ[j]? ≠ some (.mutD ys)) (hp : v.plain = true := by rfl) : HE W n sc ρ e (.val v) :=
  JX.borrowD i h hv ho fun r => Rep.plain r hp
end Mine
end

/-! part M8 -/
section
open PySem PySem.W PyProof.Rows PySem.Calls
namespace Mine
variable {W : Wd} {n : Nat} {sc : Scope} {ρ : List Bd}

/-! iterators -/
noncomputable abbrev WkT := Addr → List Addr → List Addr → FH → (Nat → Heap → Prop) → Prop
noncomputable abbrev Wk1 (W : Wd) (vs : List V) : WkT := fun I fp wr f' S => ∀ A' : Around, A'.handled = none → Walks W.prog W.w A' I fp wr vs.length (fun i u => ∃ v, vs[i]? = some v ∧ Rep f' v u) S
noncomputable def Framed (K : WkT) : Prop := ∀ I fp wr f' S, K I fp wr f' S → ∀ i h h', S i h → (∀ b ∈ fp, ∀ o, h.get? b = some o → h'.get? b = some o) → S i h'
theorem Wk1.framed {vs : List V} : Framed (Wk1 W vs) := fun I fp wr f' S k => (k callerA rfl).frame
structure ItG (h : Heap) (f' : FH) (h' : Heap) (it : Value) (K : WkT) (I : Addr) (fp wr : List Addr) (S : Nat → Heap → Prop) : Prop where
  it : it = .ref I
  walk : K I fp wr f' S
  start : S 0 h'
  fresh : ∀ b ∈ wr, h.get? b = none ∧ f' b = none
  there : ∀ i h, S i h → ∀ b ∈ wr, ∃ o, h.get? b = some o ∧ NF o
  foot : ∀ b ∈ fp, b ∈ wr ∨ ∃ o, f' b = some o
noncomputable def IterG (h : Heap) (f' : FH) (h' : Heap) (it : Value) (K : WkT) : Prop := ∃ I fp wr S, ItG h f' h' it K I fp wr S
noncomputable abbrev Iter (W : Wd) (h : Heap) (f' : FH) (h' : Heap) (it : Value) (vs : List V) : Prop := IterG h f' h' it (Wk1 W vs)
/-- the head of a loop -/
noncomputable def HIg (W : Wd) (n : Nat) (sc : Scope) (ρ : List Bd) (e : Expr) (K : WkT) : Prop :=
  ∀ env A P f s (Q : Value → Shared → Prop) (E : Value → Shared → Prop), Pre W n sc ρ env A P f s.heap →
    (∀ it f' h' tk, Ok W f f' s.heap h' → IterG s.heap f' h' it K → Q it { s with heap := h', toks := tk }) →
    wpAny W.M A (eval e env) (fun x s₁ => wpAny W.M A (pyIter x) Q E s₁) E s
noncomputable abbrev HI (W : Wd) (n : Nat) (sc : Scope) (ρ : List Bd) (e : Expr) (vs : List V) : Prop := HIg W n sc ρ e (Wk1 W vs)
/-- pyIter of a value -/
noncomputable def OpI (W : Wd) (n : Nat) (v : V) (vs : List V) : Prop :=
  ∀ A f s x (Q : Value → Shared → Prop) (E : Value → Shared → Prop), Room n A → (∀ a o, f a = some o → s.heap.get? a = some o) → Rep f v x →
    (∀ it f' h' tk, Ok W f f' s.heap h' → Iter W s.heap f' h' it vs → Q it { s with heap := h', toks := tk }) → wpAny W.M A (pyIter x) Q E s
theorem IterG.anti {h h₁ h' : Heap} {f f₁ f' : FH} {it : Value} {K : WkT} (k : Ok W f f₁ h h₁) (x : IterG h₁ f' h' it K) : IterG h f' h' it K := by
  obtain ⟨I, fp, wr, S, r⟩ := x
  refine ⟨I, fp, wr, S, r.it, r.walk, r.start, fun b hb => ⟨?_, (r.fresh b hb).2⟩, r.there, r.foot⟩
  exact k.gone (r.fresh b hb).1
theorem Iter.anti {h h₁ h' : Heap} {f f₁ f' : FH} {it : Value} {vs : List V} (k : Ok W f f₁ h h₁) (x : Iter W h₁ f' h' it vs) : Iter W h f' h' it vs := IterG.anti k x
theorem HI.of {e : Expr} {v : V} {vs : List V} (h : HE W n sc ρ e (.val v)) (hi : OpI W n v vs) : HI W n sc ρ e vs := by
  intro env A P f s Q E p hQ
  refine h env A P f s _ E p fun x f₁ h₁ tk₁ k₁ r₁ => ?_
  refine hi A f₁ { s with heap := h₁, toks := tk₁ } x Q E p.room (p.step k₁).sub r₁ fun it f₂ h₂ tk₂ k₂ r₂ => ?_
  exact hQ it f₂ h₂ tk₂ (k₁.trans k₂) (r₂.anti k₁)
theorem iter_one {f : FH} {h : Heap} {oI : Obj} {vs : List V} {ax : Addr} {ob : Obj} {S : Nat → Heap → Prop} (hs : ∀ a o, f a = some o → h.get? a = some o) (hax : f ax = some ob)
    (hw : ∀ A' : Around, A'.handled = none → Walks W.prog W.w A' h.objs.size [h.objs.size, ax] [h.objs.size] vs.length (fun i u => ∃ v, vs[i]? = some v ∧ Rep f v u) S) (st : S 0 (h.push oI))
    (ht : ∀ i h', S i h' → ∃ o, h'.get? h.objs.size = some o ∧ NF o) : Iter W h f (h.push oI) (.ref h.objs.size) vs :=
  ⟨_, _, _, S, rfl, hw, st, fun b hb => by rw [List.mem_singleton.mp hb]; exact ⟨size_none _, new_none hs (size_none _)⟩, fun i h' q b hb => by rw [List.mem_singleton.mp hb]; exact ht i h' q,
    fun b hb => by
      rcases List.mem_cons.mp hb with rfl | hb
      · exact .inl (List.mem_singleton.mpr rfl)
      · rw [List.mem_singleton.mp hb]; exact .inr ⟨_, hax⟩⟩
theorem Walks.weaken {prog : Program} {w : World} {A : Around} {I : Addr} {fp wr : List Addr} {m : Nat} {P P' : Nat → Value → Prop} {S : Nat → Heap → Prop} (x : Walks prog w A I fp wr m P S) (h : ∀ i v, P i v → P' i v) : Walks prog w A I fp wr m P' S where
  sub := x.sub
  frame := x.frame
  item := fun i s Q E hi st hQ => x.item i s Q E hi st fun v h' tk hp => hQ v h' tk (h i v hp)
  done := x.done
  self := x.self
theorem OpI.list {xs : List V} : OpI W n (.list xs) xs := by
  intro A f s x Q E hr hs hx hQ
  obtain ⟨l, vs, m, rfl, hl, hv⟩ := hx.list_inv
  have hL := hs _ _ hl
  obtain ⟨hne, hit, hil⟩ := listIter_facts hL
  refine wpAny_pyIter_list (isList hL) (hQ _ f _ s.toks (ok_push hs) ?_)
  refine iter_one (S := fun i h => h.IsListIter s.heap.objs.size l i ∧ h.IsList l vs.toArray) hs hl (fun A' hA => ?_) ⟨hit, hil⟩ fun i h' q => ?_
  · have := Walks.list (prog := W.prog) (w := W.w) hA s.heap.objs.size l hne vs.toArray
    rw [hv.arr] at this
    exact Walks.weaken this fun i v hv' => hv.get' (by simpa using hv')
  · obtain ⟨o, ho, hc, hd⟩ := q.1; exact ⟨o, ho, .ty hc hd (by intro q t; nofun)⟩
theorem OpI.tuple {xs : List V} : OpI W n (.tuple xs) xs := by
  intro A f s x Q E hr hs hx hQ
  obtain ⟨l, vs, m, rfl, hl, hv⟩ := hx.tuple_inv
  have hL := hs _ _ hl
  refine wpAny_pyIter_tuple (isTuple hL) (hQ _ f _ s.toks (ok_push hs) ?_)
  refine iter_one (S := fun i h => h.IsTupleIter s.heap.objs.size l i ∧ h.IsTuple l vs.toArray) hs hl (fun A' hA => ?_) ⟨⟨_, Heap.get?_push_size _ rfl, rfl, rfl⟩, isTuple (Heap.get?_push_of_some _ hL)⟩ fun i h' q => ?_
  · have := Walks.tuple (prog := W.prog) (w := W.w) hA s.heap.objs.size l (Nat.ne_of_lt (Heap.lt_size hL)) vs.toArray
    rw [hv.arr] at this
    exact Walks.weaken this fun i v hv' => hv.get' (by simpa using hv')
  · obtain ⟨o, ho, hc, hd⟩ := q.1; exact ⟨o, ho, .ty hc hd (by intro q t; nofun)⟩
theorem OpI.range {a b c : Int} {k : Nat} (hsm : Builtin.Range.small a b c = true) (hk : Builtin.Range.rangeSize a b c = k) : OpI W n (.range a b c) ((rangeInts a c k).map .int) := by
  intro A f s x Q E hr hs hx hQ
  obtain ⟨r, t, u, v, rfl, he⟩ := hx.range_inv
  refine wpAny_pyIter_range (hs _ _ he) hsm (hQ _ f _ s.toks (ok_push hs) ?_)
  refine ⟨s.heap.objs.size, [s.heap.objs.size], [s.heap.objs.size], fun i h => IsRangeIter h s.heap.objs.size (a + (i : Nat) * c) ((k : Int) - (i : Nat)) c, rfl, fun A' hA => ?_, ?_, fun b hb => by rw [List.mem_singleton.mp hb]; exact ⟨size_none _, new_none hs (size_none _)⟩,
    fun i h' q b hb => by rw [List.mem_singleton.mp hb]; exact ⟨_, q, .ty rfl rfl (by intro q t; nofun)⟩, fun b hb => .inl hb⟩
  · have := Walks.range (prog := W.prog) (w := W.w) hA s.heap.objs.size a c k
    rw [show ((rangeInts a c k).map V.int).length = k from by simp [rangeInts]]
    refine ⟨this.sub, this.frame, fun i s Q E hi st hQ => this.item i s Q E hi st fun v h' tk hp => hQ v h' tk ?_, this.done, this.self⟩
    obtain ⟨t, rfl⟩ := hp
    refine ⟨.int (a + i * c), ?_, .int _ _⟩
    rw [List.getElem?_map, rangeInts, List.getElem?_map, List.getElem?_range hi]; rfl
  · rw [hk]
    show IsRangeIter _ _ (a + ((0 : Nat) : Int) * c) ((k : Int) - ((0 : Nat) : Int)) c
    have e1 : a + ((0 : Nat) : Int) * c = a := by simp
    have e2 : (k : Int) - ((0 : Nat) : Int) = k := by simp
    rw [e1, e2]; exact Heap.get?_push_size _ rfl

/-! dicts -/
inductive RepKV (f : FH) : List (Int × V) → List (Int × Value) → Prop
  | nil : RepKV f [] []
  | cons {k : Int} {v : V} {x : Value} {kvs : List (Int × V)} {xs : List (Int × Value)} : Rep f v x → RepKV f kvs xs → RepKV f ((k, v) :: kvs) ((k, x) :: xs)
theorem RepKV.keys {f : FH} {a : List (Int × V)} {b : List (Int × Value)} (x : RepKV f a b) : b.map (·.1) = a.map (·.1) := by
  induction x with
  | nil => rfl
  | cons r _ ih => simp [ih]
theorem RepKV.len {f : FH} {a : List (Int × V)} {b : List (Int × Value)} (x : RepKV f a b) : b.length = a.length := by
  have := congrArg List.length x.keys; simpa using this
theorem RepKV.nth {f : FH} {a : List (Int × V)} {b : List (Int × Value)} (x : RepKV f a b) : ∀ {i : Nat} {k : Int} {y : Value}, b[i]? = some (k, y) → ∃ v, a[i]? = some (k, v) ∧ Rep f v y := by
  induction x with
  | nil => intro i k y h; simp at h
  | cons r _ ih =>
    intro i k y h
    cases i with
    | zero => simp at h; obtain ⟨rfl, rfl⟩ := h; exact ⟨_, rfl, r⟩
    | succ i => simp at h; obtain ⟨v, h1, h2⟩ := ih h; exact ⟨v, by simpa using h1, h2⟩
theorem RepD.toKV {f : FH} : ∀ {kvs : List (Int × V)} {es : List DictEntry}, RepD f kvs es → ∃ kv, RepKV f kvs kv ∧ Pairs (intKind W.prog W.w) es kv ∧ KeysOf (intKind W.prog W.w) es.toArray
  | _, _, .nil => ⟨[], .nil, .nil, fun e he => by simp at he⟩
  | _, _, .cons (k := k) (t := t) (x := x) r d => by
    obtain ⟨kv, h1, h2, h3⟩ := d.toKV
    refine ⟨(k, x) :: kv, .cons r h1, .cons (intKind_is _ _ _ _) rfl h2, fun e he => ?_⟩
    rcases List.mem_cons.mp (List.mem_toArray.mp he) with rfl | he'
    · exact ⟨k, intKind_is _ _ _ _, rfl⟩
    · exact h3 e (by simpa using he')
theorem RepD.dictAt {f : FH} {h : Heap} {a : Addr} {kvs : List (Int × V)} {es : List DictEntry} {m : Nat} (r : RepD f kvs es) (ho : h.get? a = some (dobj es m)) (hn : (kvs.map (·.1)).Nodup) :
    ∃ kv, RepKV f kvs kv ∧ h.DictAt (intKind W.prog W.w) a kv m := by
  obtain ⟨kv, h1, h2, h3⟩ := r.toKV (W := W)
  exact ⟨kv, h1, _, es.toArray, ho, ⟨rfl, rfl, rfl⟩, rfl, h3, by simpa using h2, by rw [h1.keys]; exact hn⟩
theorem RepD.ofPairs {f : FH} : ∀ {kvs : List (Int × V)} {kv : List (Int × Value)} {es : List DictEntry}, RepKV f kvs kv → Pairs (intKind W.prog W.w) es kv → (∀ (e : DictEntry), e ∈ es → ∃ k, (intKind W.prog W.w).is k e.key = true ∧ e.hash = (intKind W.prog W.w).hash k) → RepD f kvs es
  | _, _, _, .nil, .nil, _ => .nil
  | _, _, e :: es, .cons (k := k) r d, .cons h1 h2 h3, hk => by
    obtain ⟨k', h4, h5⟩ := hk e List.mem_cons_self
    have hkk : k' = k := (intKind W.prog W.w).inj _ _ _ h4 h1
    subst hkk
    obtain ⟨t, ht⟩ := Value.isInt_shape h1
    have he : e = ⟨hashInt k', .int k' t, e.val⟩ := by
      obtain ⟨a, b, c⟩ := e
      simp only at ht h5 ⊢
      rw [ht, h5]; rfl
    rw [he]
    simp only at h2
    rw [h2]
    exact .cons r (RepD.ofPairs d h3 fun e he => hk e (List.mem_cons_of_mem _ he))
theorem dictOf_rep {f : FH} {h : Heap} {a : Addr} {kvs : List (Int × V)} {kv : List (Int × Value)} (x : h.DictOf (intKind W.prog W.w) a kv) (r : RepKV f kvs kv) :
    ∃ es m, h.get? a = some (dobj es m) ∧ RepD f kvs es ∧ (kvs.map (·.1)).Nodup := by
  obtain ⟨o, es, ep, ho, hx, hd, hk, hp, hn⟩ := x
  obtain ⟨c, d, dt, sl⟩ := o
  obtain ⟨h1, h2, h3⟩ := hx
  simp only at h1 h2 h3 hd
  subst h1 h2 h3 hd
  exact ⟨es.toList, ep, by simpa [dobj] using ho, RepD.ofPairs r hp fun e he => hk e (by simpa using he), by rw [← r.keys]; exact hn⟩
theorem OpI.dict {kvs : List (Int × V)} : OpI W n (.dict kvs) (kvs.map fun p => .int p.1) := by
  intro A f s x Q E hr hs hx hQ
  obtain ⟨d, es, m, rfl, hm, hd, hv, hn⟩ := hx.dict_inv
  have hL := hs _ _ hd
  obtain ⟨kv, h1, h2⟩ := hv.dictAt (W := W) hL hn
  refine wpAny_pyIter_dict (knd := intKind W.prog W.w) hm h2 (hQ _ f _ s.toks (ok_push hs) ?_)
  have hne : d ≠ s.heap.objs.size := Nat.ne_of_lt (Heap.lt_size hL)
  refine iter_one (S := fun i h => h.IsKeyIter s.heap.objs.size d i kv.length m ∧ h.DictAt (intKind W.prog W.w) d kv m) hs hd (fun A' hA => ?_) ⟨⟨_, Heap.get?_push_size _ rfl, rfl, rfl⟩, h2.at' fun o e => Heap.get?_push_of_some _ e⟩ fun i h' q => ?_
  · have := Walks.dictKeys (prog := W.prog) (w := W.w) (knd := intKind W.prog W.w) hA s.heap.objs.size d hne kv m
    rw [show (kvs.map fun p => V.int p.1).length = kv.length from by rw [List.length_map, h1.len]]
    refine Walks.weaken this fun i v hv' => ?_
    obtain ⟨k, x, h3, h4⟩ := hv'
    obtain ⟨w, h5, _⟩ := h1.nth h3
    obtain ⟨t, rfl⟩ := Value.isInt_shape h4
    exact ⟨.int k, by rw [List.getElem?_map, h5]; rfl, .int _ _⟩
  · obtain ⟨o, ho, hc, hd⟩ := q.1; exact ⟨o, ho, .ty hc hd (by intro q t; nofun)⟩

/-! loops -/
noncomputable def Pw (P : FH) (wr : List Addr) (h : Heap) : FH := fun b => if b ∈ wr then h.get? b else P b
theorem St.guard {own : Str → Prop} {env : Env} {A : Around} {P f f' : FH} {h h' : Heap} {wr : List Addr} (st : St own W n sc ρ env A P f h) (k : Ok W f f' h h') (hw : ∀ b ∈ wr, h.get? b = none ∧ f' b = none) (hp : ∀ b ∈ wr, P b = none) :
    St own W n sc ρ env A (Pw P wr h') f' h' := by
  have st' := st.step k
  have off : ∀ b o, h.get? b = some o → b ∉ wr := fun b o e hm => by rw [(hw b hm).1] at e; cases e
  refine { pre := ⟨st'.pre.eok, st'.pre.room, st'.pre.base, st'.pre.sub, ?_⟩, pin := ?_, ns := st'.ns, locP := ?_, locF := st'.locF, cell := ?_, apart := st'.apart, len := st'.len, capt := ?_ }
  · intro i b e
    obtain ⟨x, o, h1, h2, h3⟩ := st.pre.vars i b e
    refine ⟨x, o, h1, h2.ext k.ext, ?_⟩
    have h4 := h3.step k
    cases b with
    | unb => exact h4
    | imm v => exact h4
    | mutL xs =>
      obtain ⟨a, vs, m, e1, e2, e3, e4, e5⟩ := h3
      obtain ⟨a', vs', m', e1', e2', e3', e4', e5'⟩ := h4
      rw [e1] at e1'; cases e1'
      exact ⟨a, vs', m', e1, e2', e3', e4', by simp [Pw, off a _ e2, e5]⟩
    | mutD xs =>
      obtain ⟨a, vs, m, e1, e0, e2, e3, e4, e5, e6, e7⟩ := h3
      obtain ⟨a', vs', m', e1', e0', e2', e3', e4', e5', e6', e7'⟩ := h4
      rw [e1] at e1'; cases e1'
      exact ⟨a, vs', m', e1, e0, e2', e3', e4', e5', by simp [Pw, off a _ e2, e6], e7⟩
  · intro a o e
    unfold Pw at e
    split at e
    · exact ⟨fun _ => e, fun c => ⟨o, e, c⟩⟩
    · exact st'.pin a o e
  · obtain ⟨m, o, es, ep, ho, _⟩ := st.ns
    simp [Pw, off _ _ ho, st.locP]
  · intro y c h0 h1 h2
    obtain ⟨a1, a2, o, ob, ho, hd⟩ := st.cell y c h0 h1 h2
    obtain ⟨b1, b2, b3⟩ := st'.cell y c h0 h1 h2
    exact ⟨by simp [Pw, off _ _ ho, a1], b2, b3⟩
  · intro x c h0 h1
    have := st.capt x c h0 h1
    have hc : c ∉ wr := fun hm => this (hp c hm)
    simpa [Pw, hc] using this
/-- what is written is the iterator alone -/
theorem St.moved {own : Str → Prop} {env : Env} {A : Around} {P f : FH} {h h' : Heap} {wr : List Addr} (st : St own W n sc ρ env A (Pw P wr h) f h) (hk : ∀ b o, b ∉ wr → h.get? b = some o → h'.get? b = some o)
    (hf : ∀ b ∈ wr, f b = none) (ht : ∀ b ∈ wr, ∃ o, h.get? b = some o ∧ NF o) (hp : ∀ b ∈ wr, P b = none) (hcap : ∀ x c, (own x → env.kindOf x ≠ some .cell) → env.cells.lookup x = some c → P c ≠ none) :
    St own W n sc ρ env A (Pw P wr h') f h' := by
  have off : ∀ b, Pw P wr h b = none → b ∉ wr := fun b e hm => by
    obtain ⟨o, ho, _⟩ := ht b hm
    simp [Pw, hm, ho] at e
  have up : ∀ b, Pw P wr h b = none → Pw P wr h' b = none := fun b e => by
    have := off b e
    simpa [Pw, this] using e
  have hloc := off _ st.locP
  have coff : ∀ x c, env.cells.lookup x = some c → c ∉ wr := fun x c hc => by
    by_cases ho : own x ∧ env.kindOf x = some .cell
    · exact off _ (st.cell x c ho.1 ho.2 hc).1
    · intro hm
      exact hcap x c (fun h1 h2 => ho ⟨h1, h2⟩) hc (hp c hm)
  have nsk : ∀ m, h.Ns env.locals m → h'.Ns env.locals m := fun m hn => by
    obtain ⟨o, es, ep, ho, r⟩ := hn; exact ⟨o, es, ep, hk _ _ hloc ho, r⟩
  have ck : ∀ x c o, env.cells.lookup x = some c → h.IsCell c o → h'.IsCell c o := fun x c o hc hi => by
    obtain ⟨ob, ho, hd⟩ := hi; exact ⟨ob, hk _ _ (coff x c hc) ho, hd⟩
  refine { pre := ⟨st.pre.eok, st.pre.room, st.pre.base.off ht hk, ?_, ?_⟩, pin := ?_, ns := ?_, locP := up _ st.locP, locF := st.locF, cell := ?_, apart := st.apart, len := st.len, capt := ?_ }
  · intro a o e
    exact hk a o (fun hm => by rw [hf a hm] at e; cases e) (st.pre.sub a o e)
  · intro i b e
    obtain ⟨x, o, h1, h2, h3⟩ := st.pre.vars i b e
    refine ⟨x, o, h1, ?_, ?_⟩
    · rcases h2 with ⟨k, m, hn, hm⟩ | ⟨k, c, hc, hv⟩
      · exact .inl ⟨k, m, nsk m hn, hm⟩
      · exact .inr ⟨k, c, hc, ck x c _ hc hv⟩
    · cases b with
      | unb => exact h3
      | imm v => exact h3
      | mutL xs =>
        obtain ⟨a, vs, m, e1, e2, e3, e4, e5⟩ := h3
        exact ⟨a, vs, m, e1, hk _ _ (off _ e5) e2, e3, e4, up _ e5⟩
      | mutD xs =>
        obtain ⟨a, vs, m, e1, e0, e2, e3, e4, e5, e6, e7⟩ := h3
        exact ⟨a, vs, m, e1, e0, hk _ _ (off _ e6) e2, e3, e4, e5, up _ e6, e7⟩
  · intro a o e
    unfold Pw at e
    split at e
    · exact ⟨fun _ => e, fun c => ⟨o, e, c⟩⟩
    · rename_i hn
      have q := st.pin a o (by simpa [Pw, hn] using e)
      exact ⟨fun c => hk a o hn (q.1 c), fun c => by obtain ⟨o', h1, h2⟩ := q.2 c; exact ⟨o', hk a o' hn h1, h2⟩⟩
  · obtain ⟨m, hn⟩ := st.ns; exact ⟨m, nsk m hn⟩
  · intro y c h0 h1 h2
    obtain ⟨a1, a2, o, hc⟩ := st.cell y c h0 h1 h2
    exact ⟨up _ a1, a2, o, ck y c _ h2 hc⟩
  · intro x c h0 h1
    have := coff x c h1
    simpa [Pw, this] using hcap x c h0 h1
/-- the guard taken away -/
theorem St.free {own : Str → Prop} {env : Env} {A : Around} {P P' f : FH} {h : Heap} (st : St own W n sc ρ env A P' f h) (hP : ∀ a o, P a = some o → P' a = some o) (hcap : ∀ x c, (own x → env.kindOf x ≠ some .cell) → env.cells.lookup x = some c → P c ≠ none) :
    St own W n sc ρ env A P f h := by
  have nn : ∀ a, P' a = none → P a = none := fun a e => by
    cases q : P a with
    | none => rfl
    | some o => rw [hP a o q] at e; cases e
  refine { pre := ⟨st.pre.eok, st.pre.room, st.pre.base, st.pre.sub, ?_⟩, pin := fun a o e => st.pin a o (hP a o e), ns := st.ns, locP := nn _ st.locP, locF := st.locF, cell := ?_, apart := st.apart, len := st.len, capt := hcap }
  · intro i b e
    obtain ⟨x, o, h1, h2, h3⟩ := st.pre.vars i b e
    refine ⟨x, o, h1, h2, ?_⟩
    cases b with
    | unb => exact h3
    | imm v => exact h3
    | mutL xs => obtain ⟨a, vs, m, e1, e2, e3, e4, e5⟩ := h3; exact ⟨a, vs, m, e1, e2, e3, e4, nn _ e5⟩
    | mutD xs => obtain ⟨a, vs, m, e1, e0, e2, e3, e4, e5, e6, e7⟩ := h3; exact ⟨a, vs, m, e1, e0, e2, e3, e4, e5, nn _ e6, e7⟩
  · intro y c h0 h1 h2
    obtain ⟨a1, a2, r⟩ := st.cell y c h0 h1 h2
    exact ⟨nn _ a1, a2, r⟩
theorem pw_base {P : FH} {wr : List Addr} {h : Heap} (hp : ∀ b ∈ wr, P b = none) : ∀ a o, P a = some o → Pw P wr h a = some o := fun a o e => by
  have : a ∉ wr := fun hm => by rw [hp a hm] at e; cases e
  simpa [Pw, this] using e
theorem Gr.base {P P' f f' : FH} (g : Gr P' f f') (hP : ∀ a o, P a = some o → P' a = some o) : Gr P f f' := ⟨g.le, fun a o e => by
  rcases g.new a o e with q | q
  · exact .inl q
  · refine .inr ?_
    cases h : P a with
    | none => rfl
    | some o' => rw [hP a o' h] at q; cases q⟩

noncomputable def forPost (Post : Out → List Bd → Prop) (Nx : List Bd → Prop) (o : Out) (r : List Bd) : Prop :=
  match o with
  | .next => Nx r
  | .cont => Nx r
  | .brk => Post .next r
  | .ret v => Post (.ret v) r
/-- a statement under a premise upon the frame -/
noncomputable def TXq (q : Env → Around → Prop) (W : Wd) (n : Nat) (sc : Scope) (ρ : List Bd) (t : Env → Sem Flow) (Post : Out → List Bd → Prop) : Prop :=
  ∀ env A P f s (Q : Flow → Shared → Prop) (E : Value → Shared → Prop), q env A → St (fun _ => True) W n sc ρ env A P f s.heap →
    (∀ fl o ρ' f' h' tk, Gr P f f' → St (fun _ => True) W n sc ρ' env A P f' h' → FlowOk f' o fl → Post o ρ' → Q fl { s with heap := h', toks := tk }) → wpAny W.M A (t env) Q E s
noncomputable abbrev HSq (q : Env → Around → Prop) (W : Wd) (n : Nat) (sc : Scope) (ρ : List Bd) (ss : List Stmt) (Post : Out → List Bd → Prop) : Prop := TXq q W n sc ρ (fun env => execs ss env) Post
noncomputable abbrev HTq (q : Env → Around → Prop) (W : Wd) (n : Nat) (sc : Scope) (ρ : List Bd) (st : Stmt) (Post : Out → List Bd → Prop) : Prop := TXq q W n sc ρ (fun env => exec st env) Post
variable {qq : Env → Around → Prop}
theorem TX.toQ {t : Env → Sem Flow} {Post : Out → List Bd → Prop} (h : TX W n sc ρ t Post) : TXq qq W n sc ρ t Post := fun env A P f s Q E _ st hQ => h env A P f s Q E st hQ
theorem TXq.toT {t : Env → Sem Flow} {Post : Out → List Bd → Prop} (h : TXq (fun _ _ => True) W n sc ρ t Post) : TX W n sc ρ t Post := fun env A P f s Q E st hQ => h env A P f s Q E trivial st hQ
theorem HTq.for {x : Str} {xp pos : Pos} {iter : Expr} {body orelse : List Stmt} {vs : List V} {Post : Out → List Bd → Prop} (Inv : Nat → List Bd → Prop) (ix : Nat) (hi : HI W n sc ρ iter vs) (h0 : Inv 0 ρ)
    (hturn : ∀ i v r, vs[i]? = some v → Inv i r → HSq qq W n sc (r.set ix (.imm v)) body (forPost Post (Inv (i + 1))))
    (hend : ∀ r, Inv vs.length r → HSq qq W n sc r orelse Post)
    (hx : (vnames sc)[ix]? = some x := by rfl) (hfr : (sc.names.lookup x == some .free) = false := by rfl)
    (hs : ∀ env x, foldedSetIterable iter env x = pure x := by intro _ _; rfl) : HTq qq W n sc ρ (.For (.Name x xp) iter body orelse pos) Post := by
  intro env A P f s Q E hq st hQ
  refine wpAny_For (hi env A P f s _ E st.pre fun it f₁ h₁ tk₁ k₁ hit => ?_) (hs env)
  obtain ⟨I, fp, wr, S, r⟩ := hit
  obtain rfl := r.it
  have W₁ := r.walk A st.pre.room.handled
  have hp : ∀ b ∈ wr, P b = none := fun b hb => by
    cases q : P b with
    | none => rfl
    | some o => have := (r.fresh b hb).1; obtain ⟨o', h9⟩ := st.pin.there q; rw [h9] at this; cases this
  have hcap := st.capt
  have g₁ : Gr P f f₁ := k₁.gr st.pin
  refine codeAny_forLoop (fun k s' => ∃ i ρ' f' h' tk, s' = { s with heap := h', toks := tk } ∧ St (fun _ => True) W n sc ρ' env A (Pw P wr h') f' h' ∧ Gr P f f' ∧ Le f₁ f' ∧ (∀ b ∈ wr, f' b = none) ∧ S i h' ∧ Inv i ρ' ∧ i ≤ vs.length ∧ k = vs.length + 1 - i) ?_ (vs.length + 1)
    ⟨0, ρ, f₁, h₁, tk₁, rfl, st.guard k₁ r.fresh hp, g₁, Le.refl _, fun b hb => (r.fresh b hb).2, r.start, h0, Nat.zero_le _, rfl⟩
  rintro k s' ⟨i, ρ', f', h', tk, rfl, st', g', le', hf', hS, hI, hle, rfl⟩
  by_cases hlt : i < vs.length
  · refine W₁.item i _ _ _ hlt hS fun u h₂ tk₂ hu hS₂ hk₂ => ?_
    obtain ⟨v, hv, hr⟩ := hu
    have st₂ := st'.moved hk₂ hf' (r.there i h' hS) hp hcap
    refine wpAny_assign_Name (st₂.store (s := { s with heap := h₂, toks := tk₂ }) hx (BdOk.imm (hr.mono le')) hfr (how := trivial) fun h₃ tk₃ st₃ => ?_)
    refine hturn i v ρ' hv hI env A (Pw P wr h₂) f' { s with heap := h₃, toks := tk₃ } _ _ hq st₃ fun fl o ρ₄ f₄ h₄ tk₄ g₄ st₄ fo hp₄ => ?_
    have hP₂ := pw_base (h := h₂) hp
    have keepw : ∀ b ∈ wr, h₄.get? b = h₂.get? b := fun b hb => by
      obtain ⟨o, ho, hnf⟩ := r.there (i + 1) h₂ hS₂ b hb
      rw [ho]; exact (st₄.pin b o (by simp [Pw, hb, ho])).1 hnf.tab
    have hPw : Pw P wr h₄ = Pw P wr h₂ := by
      funext b; unfold Pw; split
      · rename_i hb; exact keepw b hb
      · rfl
    have hf₄ : ∀ b ∈ wr, f₄ b = none := fun b hb => by
      cases q : f₄ b with
      | none => rfl
      | some o =>
        rcases g₄.new b o q with q' | q'
        · rw [hf' b hb] at q'; cases q'
        · obtain ⟨o', ho', _⟩ := r.there (i + 1) h₂ hS₂ b hb
          simp [Pw, hb, ho'] at q'
    have gg : Gr P f f₄ := g'.trans (g₄.base hP₂)
    have again : Inv (i + 1) ρ₄ → ∃ m, m < vs.length + 1 - i ∧ ∃ i ρ' f' h' tk, ({ s with heap := h₄, toks := tk₄ } : Shared) = { s with heap := h', toks := tk } ∧ St (fun _ => True) W n sc ρ' env A (Pw P wr h') f' h' ∧ Gr P f f' ∧ Le f₁ f' ∧ (∀ b ∈ wr, f' b = none) ∧ S i h' ∧ Inv i ρ' ∧ i ≤ vs.length ∧ m = vs.length + 1 - i := fun hI' => by
      refine ⟨vs.length + 1 - (i + 1), by omega, i + 1, ρ₄, f₄, h₄, tk₄, rfl, by rw [hPw]; exact st₄, gg, le'.trans g₄.le, hf₄, ?_, hI', hlt, rfl⟩
      refine W₁.frame _ _ _ hS₂ fun b hb o e => ?_
      rcases r.foot b hb with hb | ⟨o', ho'⟩
      · rw [keepw b hb]; exact e
      · have h5 := st₄.pre.sub b o' (g₄.le b o' (le' b o' ho'))
        have h6 := st₂.pre.sub b o' (le' b o' ho')
        rw [h6] at e; cases e; exact h5
    have fin : ∀ fl' o', FlowOk f₄ o' fl' → Post o' ρ₄ → Q fl' { s with heap := h₄, toks := tk₄ } := fun fl' o' h1 h2 =>
      hQ fl' o' ρ₄ f₄ h₄ tk₄ gg (st₄.free hP₂ hcap) h1 h2
    cases o with
    | next => cases fl with
      | next => exact again hp₄
      | _ => exact fo.elim
    | cont => cases fl with
      | cont => exact again hp₄
      | _ => exact fo.elim
    | brk => cases fl with
      | brk => exact fin .next .next trivial hp₄
      | _ => exact fo.elim
    | ret v' => cases fl with
      | ret y => exact fin (.ret y) (.ret v') fo hp₄
      | _ => exact fo.elim
  · have hin : i = vs.length := by omega
    subst hin
    refine W₁.done _ _ _ hS fun h₂ tk₂ hk₂ => ?_
    have hP' := pw_base (h := h') hp
    have st₂ : St (fun _ => True) W n sc ρ' env A P f' h₂ := (st'.moved hk₂ hf' (r.there _ h' hS) hp hcap).free (pw_base hp) hcap
    refine hend ρ' hI env A P f' { s with heap := h₂, toks := tk₂ } _ _ hq st₂ fun fl o ρ₃ f₃ h₃ tk₃ g₃ st₃ fo p₃ => ?_
    exact hQ fl o ρ₃ f₃ h₃ tk₃ (g'.trans g₃) st₃ fo p₃
theorem HT.for {x : Str} {xp pos : Pos} {iter : Expr} {body orelse : List Stmt} {vs : List V} {Post : Out → List Bd → Prop} (Inv : Nat → List Bd → Prop) (ix : Nat) (hi : HI W n sc ρ iter vs) (h0 : Inv 0 ρ)
    (hturn : ∀ i v r, vs[i]? = some v → Inv i r → HS W n sc (r.set ix (.imm v)) body (forPost Post (Inv (i + 1))))
    (hend : ∀ r, Inv vs.length r → HS W n sc r orelse Post)
    (hx : (vnames sc)[ix]? = some x := by rfl) (hfr : (sc.names.lookup x == some .free) = false := by rfl)
    (hs : ∀ env x, foldedSetIterable iter env x = pure x := by intro _ _; rfl) : HT W n sc ρ (.For (.Name x xp) iter body orelse pos) Post :=
  TXq.toT (HTq.for Inv ix hi h0 (fun i v r hv hI => TX.toQ (hturn i v r hv hI)) (fun r hI => TX.toQ (hend r hI)) hx hfr hs)
theorem HT.while {test : Expr} {body orelse : List Stmt} {pos : Pos} {Post : Out → List Bd → Prop} (Inv : Nat → List Bd → Prop) (m : Nat) (h0 : Inv m ρ)
    (hturn : ∀ k r, Inv k r → ∃ c, HB W n sc r test c ∧ (c = true → HS W n sc r body (forPost Post (fun r' => ∃ k' < k, Inv k' r'))) ∧ (c = false → HS W n sc r orelse Post)) :
    HT W n sc ρ (.While test body orelse pos) Post := by
  intro env A P f s Q E st hQ
  refine wpAny_While (codeAny_whileLoop (fun k s' => ∃ ρ' f' h' tk, s' = { s with heap := h', toks := tk } ∧ St (fun _ => True) W n sc ρ' env A P f' h' ∧ Gr P f f' ∧ Inv k ρ') ?_ m ⟨ρ, f, s.heap, s.toks, rfl, st, Gr.refl _ _, h0⟩)
  rintro k s' ⟨ρ', f', h', tk, rfl, st', g', hI⟩
  obtain ⟨c, hc, ht, he⟩ := hturn k ρ' hI
  refine hc env A P f' { s with heap := h', toks := tk } _ _ st'.pre fun b f₂ h₂ tk₂ k₂ hb => ?_
  subst hb
  have st₂ := st'.step k₂
  have g₂ := g'.trans (k₂.gr st'.pin)
  cases b with
  | true =>
    refine ht rfl env A P f₂ { s with heap := h₂, toks := tk₂ } _ _ st₂ fun fl o ρ₄ f₄ h₄ tk₄ g₄ st₄ fo p₄ => ?_
    have gg := g₂.trans g₄
    cases o with
    | next => cases fl with
      | next => obtain ⟨k', hk', hI'⟩ := p₄; exact ⟨k', hk', ρ₄, f₄, h₄, tk₄, rfl, st₄, gg, hI'⟩
      | _ => exact fo.elim
    | cont => cases fl with
      | cont => obtain ⟨k', hk', hI'⟩ := p₄; exact ⟨k', hk', ρ₄, f₄, h₄, tk₄, rfl, st₄, gg, hI'⟩
      | _ => exact fo.elim
    | brk => cases fl with
      | brk => exact hQ .next .next ρ₄ f₄ h₄ tk₄ gg st₄ trivial p₄
      | _ => exact fo.elim
    | ret v' => cases fl with
      | ret y => exact hQ (.ret y) (.ret v') ρ₄ f₄ h₄ tk₄ gg st₄ fo p₄
      | _ => exact fo.elim
  | false =>
    refine he rfl env A P f₂ { s with heap := h₂, toks := tk₂ } _ _ st₂ fun fl o ρ₄ f₄ h₄ tk₄ g₄ st₄ fo p₄ => ?_
    exact hQ fl o ρ₄ f₄ h₄ tk₄ (g₂.trans g₄) st₄ fo p₄
end Mine
end

/-! part M9 -/
section
open PySem PySem.W PyProof.Rows PySem.Calls
namespace Mine
variable {W : Wd} {n : Nat} {sc : Scope} {ρ : List Bd} {own : Str → Prop}

/-! comprehensions: the frame of their own -/
noncomputable def relS (scope sc : Scope) : Scope :=
  { scope with names := scope.names.map fun (n, k) => if (k == .free && sc.kind == .function && sc.names.lookup n == some .cell) then (n, .cell) else (n, k) }
theorem relS_eq {scope : Scope} {env : Env} : relabel scope env = relS scope env.scope := rfl

noncomputable def capsOk (outer inner : List Str) (caps : List (Option Nat)) (scope sc : Scope) : Bool :=
  caps.length == inner.length &&
  (List.range inner.length).all fun j =>
    match inner[j]?, caps[j]? with
    | some x, some (some i) => outer[i]? == some x && scope.names.lookup x == some .free && (sc.names.lookup x == some .cell || sc.names.lookup x == some .free)
    | some x, some none => scope.names.lookup x == some .local || scope.names.lookup x == some .cell
    | _, _ => false
structure CompOk (scope sc : Scope) (caps : List (Option Nat)) : Prop where
  caps : capsOk (vnames sc) (vnames scope) caps scope sc = true
  kind : scope.kind = .function
  nodup : (scope.names.map (·.1)).Nodup
  plain : ∀ y ∈ vnames scope, (y == ("__debug__" : Str)) = false ∧ (y == ("__classdict__" : Str)) = false
  vn : vnames (relS scope sc) = vnames scope
  dot : ∀ x ∈ scope.names, x.2 = .free → x.1 ≠ (".0" : Str)
/-- the frame's bindings at the start -/
noncomputable def rho0 (ρ : List Bd) (caps : List (Option Nat)) : List Bd := caps.map fun
  | some i => (ρ[i]?).getD .unb
  | none => .unb
noncomputable def immOnly : Bd → Bool
  | .imm _ | .unb => true
  | _ => false

theorem wpAny_newCompEnv {M : Model} {A : Around} {E : Value → Shared → Prop} {s : Shared} {scope : Scope} {env : Env} {cl : List (Str × Addr)} {Q : Env → Shared → Prop}
    (hQ : Q { scope := scope, locals := s.heap.objs.size, globals := env.globals, cells := cellsFrom (s.heap.objs.size + 1) scope.names cl, qual := env.qual, func := none, code := env.code, frame := env.frame, builtins := env.builtins }
      { s with heap := pushCells (s.heap.push { cls := .type "dict", data := .dict #[] }) scope.names }) :
    wpAny M A (newFunctionEnv scope env.globals cl [] env.qual none .none (some env)) Q E s := by
  simp only [newFunctionEnv, Option.isSome_some, if_true]
  refine wpAny_bind (wpAny_alloc ?_)
  refine wpAny_bind (wpAny_layCells _ (fun name kind cells => by cases hkc : kind == NameKind.cell <;> simp) _ _ _ _ ?_)
  rw [show ({ s with heap := s.heap.push { cls := .type "dict", data := .dict #[] } } : Shared).heap.objs.size = s.heap.objs.size + 1 from Heap.size_push ..]
  refine wpAny_bind ?_
  rw [List.forIn_nil]
  exact wpAny_pure (wpAny_pure hQ)

theorem closure_run {env : Env} : ∀ (names : List (Str × NameKind)) (acc : List (Str × Addr)), (∀ x ∈ names, x.2 = .free → (env.cells.lookup x.1).isSome = true) → (names.map (·.1)).Nodup →
    ∃ cl, (forIn names acc fun (x : Str × NameKind) (cs : List (Str × Addr)) => (if x.2 == NameKind.free then (do let a ← cellOf env x.1; pure (ForInStep.yield ((x.1, a) :: cs))) else pure (ForInStep.yield cs) : Sem (ForInStep (List (Str × Addr))))) = pure cl ∧
      (∀ y, (∃ k, (y, k) ∈ names ∧ k = NameKind.free) → cl.lookup y = env.cells.lookup y) ∧ (∀ y, (¬ ∃ k, (y, k) ∈ names ∧ k = NameKind.free) → cl.lookup y = acc.lookup y)
  | [], acc, _, _ => ⟨acc, by rw [List.forIn_nil], fun y h => by simp at h, fun y _ => rfl⟩
  | (x, k) :: r, acc, h, hn => by
    simp only [List.map_cons, List.nodup_cons] at hn
    by_cases hk : k = .free
    · subst hk
      obtain ⟨a, ha⟩ := Option.isSome_iff_exists.mp (h (x, .free) List.mem_cons_self rfl)
      obtain ⟨cl, h1, h2, h3⟩ := closure_run r ((x, a) :: acc) (fun z hz => h z (List.mem_cons_of_mem _ hz)) hn.2
      have hxr : ¬ ∃ k, (x, k) ∈ r ∧ k = NameKind.free := fun ⟨k, hk, _⟩ => hn.1 (List.mem_map_of_mem (f := (·.1)) hk)
      refine ⟨cl, ?_, ?_, ?_⟩
      · rw [List.forIn_cons]
        have : cellOf env x = pure a := by unfold cellOf; rw [ha]
        simp only [beq_self_eq_true, if_true, this, pure_bind]
        exact h1
      · rintro y ⟨k, hm, rfl⟩
        rcases List.mem_cons.mp hm with e | hm
        · cases e
          rw [h3 x hxr]; simp [ha]
        · exact h2 y ⟨_, hm, rfl⟩
      · intro y hy
        have hyr : ¬ ∃ k, (y, k) ∈ r ∧ k = NameKind.free := fun ⟨k, hk, e⟩ => hy ⟨k, List.mem_cons_of_mem _ hk, e⟩
        have hyx : (y == x) = false := by
          rw [beq_eq_false_iff_ne]; rintro rfl; exact hy ⟨_, List.mem_cons_self, rfl⟩
        rw [h3 y hyr]; simp [List.lookup_cons, hyx]
    · obtain ⟨cl, h1, h2, h3⟩ := closure_run r acc (fun z hz => h z (List.mem_cons_of_mem _ hz)) hn.2
      refine ⟨cl, ?_, ?_, ?_⟩
      · rw [List.forIn_cons]
        have : (k == NameKind.free) = false := by simpa using hk
        simp only [this, Bool.false_eq_true, if_false, pure_bind]
        exact h1
      · rintro y ⟨k', hm, rfl⟩
        rcases List.mem_cons.mp hm with e | hm
        · cases e; exact absurd rfl hk
        · exact h2 y ⟨_, hm, rfl⟩
      · intro y hy
        exact h3 y fun ⟨k, hk, e⟩ => hy ⟨k, List.mem_cons_of_mem _ hk, e⟩
theorem closureFor_run {env : Env} {scope : Scope} (h : ∀ x ∈ scope.names, x.2 = .free → (env.cells.lookup x.1).isSome = true) (hn : (scope.names.map (·.1)).Nodup) :
    ∃ cl, closureFor scope env = pure cl ∧ (∀ y, (∃ k, (y, k) ∈ scope.names ∧ k = NameKind.free) → cl.lookup y = env.cells.lookup y) ∧ (∀ y, (¬ ∃ k, (y, k) ∈ scope.names ∧ k = NameKind.free) → cl.lookup y = none) := by
  obtain ⟨cl, h1, h2, h3⟩ := closure_run scope.names [] h hn
  refine ⟨cl, ?_, h2, fun y hy => by rw [h3 y hy]; rfl⟩
  unfold closureFor
  have e : (forIn scope.names ([] : List (Str × Addr)) fun (x : Str × NameKind) (cs : List (Str × Addr)) => (if x.2 == NameKind.free then (do let a ← cellOf env x.1; pure (ForInStep.yield ((x.1, a) :: cs))) else pure (ForInStep.yield cs) : Sem (ForInStep (List (Str × Addr))))) = pure cl := h1
  exact (congrArg (fun t : Sem (List (Str × Addr)) => t >>= fun cs => pure cs) e).trans (pure_bind ..)

/-! the loop of a clause -/
/-- what is gathered, and the object that holds it -/
structure AccT (β : Type) where
  R : FH → β → Obj → Prop
  mono : ∀ {f g : FH} {b : β} {o : Obj}, Le f g → R f b o → R g b o
  nf : ∀ {f : FH} {b : β} {o : Obj}, R f b o → NF o
noncomputable def accL : AccT (List V) where
  R := fun f acc o => ∃ xs m, o = lobj xs m ∧ Reps f acc xs
  mono := fun h ⟨xs, m, e, r⟩ => ⟨xs, m, e, r.mono h⟩
  nf := fun ⟨xs, m, e, r⟩ => e ▸ .l
noncomputable def accD : AccT (List (Int × V)) where
  R := fun f acc o => ∃ es m, o = dobj es m ∧ RepD f acc es ∧ (acc.map (fun p : Int × V => p.1)).Nodup
  mono := by
    rintro f g b o h ⟨es, m, e, r, d⟩
    exact ⟨es, m, e, r.mono h, d⟩
  nf := fun ⟨es, m, e, r, d⟩ => e ▸ .d
/-- a comprehension as the model runs it -/
structure IsComp (e : Expr) : Prop where
  loop : ∀ (prog : Program) (w : World) (d : Nat) (I D : Addr) (env : Env), (model prog w).den (.compLoop e d (.ref I) (.ref D) env) = (compTurn e d (.ref I) (.ref D) env).onRaise (fun x => do noteFrame x env; theTreesLotGoes x)
  start : ∀ (prog : Program) (w : World) (d : Nat) (I D : Addr) (env : Env), (model prog w).den (.compStart e d (.ref I) (.ref D) env) = (compStart e d (.ref I) (.ref D) env).onRaise (fun x => do noteFrame x env; standAt theWindowsPlace)
  ul : ∀ (A : Around) (d : Nat) (I D : Addr) (env : Env), A.under (.compLoop e d (.ref I) (.ref D) env) = A
  us : ∀ (A : Around) (d : Nat) (I D : Addr) (env : Env), A.under (.compStart e d (.ref I) (.ref D) env) = A
theorem isComp_list {elt : Expr} {gens : List Comprehension} {scope : Scope} {cpos : Pos} : IsComp (.ListComp elt gens scope cpos) := ⟨fun _ _ _ _ _ _ => rfl, fun _ _ _ _ _ _ => rfl, fun _ _ _ _ _ => rfl, fun _ _ _ _ _ => rfl⟩
theorem isComp_dict {k v : Expr} {gens : List Comprehension} {scope : Scope} {cpos : Pos} : IsComp (.DictComp k v gens scope cpos) := ⟨fun _ _ _ _ _ _ => rfl, fun _ _ _ _ _ _ => rfl, fun _ _ _ _ _ => rfl, fun _ _ _ _ _ => rfl⟩
noncomputable def CXg {α β : Type} (T : AccT β) (own : Str → Prop) (W : Wd) (n : Nat) (sc : Scope) (ρ : List Bd) (acc : β) (t : Env → Addr → Sem α) (Post : List Bd → β → Prop) : Prop :=
  ∀ env A P f D o s (Q : α → Shared → Prop) (E : Value → Shared → Prop), St own W n sc ρ env A (Pw P [D] s.heap) f s.heap → P D = none → f D = none → s.heap.get? D = some o → T.R f acc o →
    (∀ x c, (own x → env.kindOf x ≠ some .cell) → env.cells.lookup x = some c → P c ≠ none) →
    (∀ a ρ' acc' f' h' tk o', Gr P f f' → St own W n sc ρ' env A (Pw P [D] h') f' h' → f' D = none → h'.get? D = some o' → T.R f' acc' o' → Post ρ' acc' → Q a { s with heap := h', toks := tk }) →
    wpAny W.M A (t env D) Q E s
noncomputable abbrev CX {α : Type} (own : Str → Prop) (W : Wd) (n : Nat) (sc : Scope) (ρ : List Bd) (acc : List V) (t : Env → Addr → Sem α) (Post : List Bd → List V → Prop) : Prop := CXg accL own W n sc ρ acc t Post
variable {β : Type} {T : AccT β}
noncomputable def emitL (elt : Expr) (env : Env) (D : Addr) : Sem Unit := do let _ ← call (.builtin "list.append") [.ref D, ← eval elt env]
theorem append_exact {A : Around} {s : Shared} {l : Addr} {vs : List Value} {m : Nat} {x : Value} {Q : Value → Shared → Prop} {E : Value → Shared → Prop} (hl : s.heap.get? l = some (lobj vs m)) (hsz : vs.length ≤ 1000000)
    (hQ : ∀ h' m', h'.get? l = some (lobj (vs ++ [x]) m') → Heap.SameBut l s.heap h' → Q .none { s with heap := h' }) : wpAny W.M A (call (.builtin "list.append") [.ref l, x]) Q E s := by
  refine call_meets F.slot_list_append ⟨_, hl, rfl⟩ F.entry_list_append (F.args_list_append_2 _ _) (list_append l vs.toArray m x (by rw [List.size_toArray, sizeLine_eq]; omega)) ⟨hl, ?_⟩
  have e := IsL.update (h := s.heap) (l := l) (items := vs.toArray) (n := m) hl (fun xs => xs.push x)
  exact hQ _ _ (by rw [e]; simp [lobj]; rfl) (Heap.SameBut.update ..)
theorem CX.emit {elt : Expr} {acc : List V} {v : V} {Post : List Bd → List V → Prop} (h : HE W n sc ρ elt (.val v)) (hsz : acc.length ≤ 1000000) (hp : Post ρ (acc ++ [v])) : CX own W n sc ρ acc (emitL elt) Post := by
  intro env A P f D o s Q E st hP hf hD hacc hcap hQ
  obtain ⟨xs, m, rfl, hacc⟩ := hacc
  unfold emitL
  refine wpAny_bind (h env A (Pw P [D] s.heap) f s _ E st.pre fun x f₁ h₁ tk₁ k₁ r₁ => ?_)
  have st₁ := st.step k₁
  have hD₁ : h₁.get? D = some (lobj xs m) := k₁.ext _ _ hD notTab_l
  have hf₁ : f₁ D = none := k₁.none' hf hD
  refine wpAny_bind (append_exact (s := { s with heap := h₁, toks := tk₁ }) hD₁ (by rw [hacc.length]; exact hsz) fun h₂ m₂ hD₂ hs₂ => wpAny_pure ?_)
  have e : Pw P [D] s.heap = Pw P [D] h₁ := by
    funext b; unfold Pw; split
    · rename_i hb; rw [List.mem_singleton.mp hb, hD, hD₁]
    · rfl
  rw [e] at st₁
  refine hQ () ρ (acc ++ [v]) f₁ h₂ tk₁ (lobj (xs ++ [x]) m₂) ?_ ?_ hf₁ hD₂ ⟨_, _, rfl, (hacc.mono k₁.le).append (.one r₁)⟩ hp
  · exact (k₁.gr st.pin).base (pw_base fun b hb => by rw [List.mem_singleton.mp hb]; exact hP)
  · exact st₁.moved (fun b o hb ho => hs₂.extBut b o (fun e => hb (List.mem_singleton.mpr e)) ho) (fun b hb => by rw [List.mem_singleton.mp hb]; exact hf₁) (fun b hb => by rw [List.mem_singleton.mp hb]; exact ⟨_, hD₁, .l⟩)
      (fun b hb => by rw [List.mem_singleton.mp hb]; exact hP) hcap
/-- the tests of a clause -/
inductive HTests (W : Wd) (n : Nat) (sc : Scope) (ρ : List Bd) : List Expr → Bool → Prop where
  | nil : HTests W n sc ρ [] true
  | one {c : Expr} {b : Bool} (h : HB W n sc ρ c b) : HTests W n sc ρ [c] b
theorem HTests.run {ifs : List Expr} {b : Bool} (h : HTests W n sc ρ ifs b) {env : Env} {A : Around} {P f : FH} {s : Shared} {Q : Bool → Shared → Prop} {E : Value → Shared → Prop} (p : Pre W n sc ρ env A P f s.heap)
    (hQ : ∀ f' h' tk, Ok W f f' s.heap h' → Q b { s with heap := h', toks := tk }) :
    wpAny W.M A (forIn ifs true fun c r => if r = true then do let ok ← isTrue c env (eval c env); pure (ForInStep.yield ok) else pure (ForInStep.yield r)) Q E s := by
  cases h with
  | nil => exact wpAny_tests_nil (hQ f s.heap s.toks p.ok)
  | one h => exact wpAny_tests_one (h env A P f s Q E p fun x f' h' tk k e => by subst e; exact hQ f' h' tk k)
/-- one clause's loop, run by its code -/
noncomputable def CLt {β : Type} (T : AccT β) (own : Str → Prop) (W : Wd) (n : Nat) (sc : Scope) (ρ : List Bd) (acc : β) (c : Env → Addr → Addr → Code) (K : WkT) (Post : List Bd → β → Prop) : Prop :=
  ∀ env A P f D o s (R : Result → Shared → Prop) (I : Addr) (fp wr : List Addr) (S : Nat → Heap → Prop) (h₀ : Heap) (f₁ : FH),
    St own W n sc ρ env A (Pw (Pw P wr s.heap) [D] s.heap) f s.heap → P D = none → f D = none → s.heap.get? D = some o → T.R f acc o → D ∉ wr →
    (∀ x c, (own x → env.kindOf x ≠ some .cell) → env.cells.lookup x = some c → P c ≠ none) → ItG h₀ f₁ s.heap (.ref I) K I fp wr S → (∀ b ∈ wr, P b = none) → (∀ b ∈ wr, f b = none) → Le f₁ f →
    (∀ ρ' acc' f' h' tk o', Gr P f f' → St own W n sc ρ' env A (Pw P [D] h') f' h' → f' D = none → h'.get? D = some o' → T.R f' acc' o' → Post ρ' acc' → R (.ok .next) { s with heap := h', toks := tk }) →
    codeAny W.M A (c env D I) R s
noncomputable abbrev CLg (own : Str → Prop) (W : Wd) (n : Nat) (sc : Scope) (ρ : List Bd) (acc : List V) (c : Env → Addr → Addr → Code) (K : WkT) (Post : List Bd → List V → Prop) : Prop := CLt accL own W n sc ρ acc c K Post
noncomputable abbrev CL (own : Str → Prop) (W : Wd) (n : Nat) (sc : Scope) (ρ : List Bd) (acc : List V) (c : Env → Addr → Addr → Code) (vs : List V) (Post : List Bd → List V → Prop) : Prop := CLg own W n sc ρ acc c (Wk1 W vs) Post
/-- what a turn does behind the target's store -/
noncomputable def turnL (ifs : List Expr) (tail : Env → Addr → Sem Unit) (env : Env) (D : Addr) : Sem Unit := do
  let ok ← (forIn ifs true fun c r => if r = true then do let ok ← isTrue c env (eval c env); pure (ForInStep.yield ok) else pure (ForInStep.yield r) : Sem Bool)
  if ok = true then tail env D else pure ()
theorem CX.turn {ifs : List Expr} {tail : Env → Addr → Sem Unit} {b : Bool} {acc : β} {Post : List Bd → β → Prop} (ht : HTests W n sc ρ ifs b) (h1 : b = true → CXg T own W n sc ρ acc tail Post) (h2 : b = false → Post ρ acc) :
    CXg T own W n sc ρ acc (turnL ifs tail) Post := by
  intro env A P f D o s Q E st hP hf hD hacc hcap hQ
  unfold turnL
  refine wpAny_bind (ht.run st.pre fun f₁ h₁ tk₁ k₁ => ?_)
  have st₁ := st.step k₁
  have hD₁ : h₁.get? D = some o := k₁.ext _ _ hD (T.nf hacc).tab
  have hf₁ : f₁ D = none := k₁.none' hf hD
  have e : Pw P [D] s.heap = Pw P [D] h₁ := by
    funext b; unfold Pw; split
    · rename_i hb; rw [List.mem_singleton.mp hb, hD, hD₁]
    · rfl
  rw [e] at st₁
  have g₁ : Gr P f f₁ := (k₁.gr st.pin).base (pw_base fun b hb => by rw [List.mem_singleton.mp hb]; exact hP)
  cases b with
  | true =>
    simp only [if_true]
    refine h1 rfl env A P f₁ D o { s with heap := h₁, toks := tk₁ } Q E st₁ hP hf₁ hD₁ (T.mono k₁.le hacc) hcap fun a ρ' acc' f' h' tk o' g st' h3 h4 h5 h6 => ?_
    exact hQ a ρ' acc' f' h' tk o' (g₁.trans g) st' h3 h4 h5 h6
  | false =>
    simp only [Bool.false_eq_true, if_false]
    exact wpAny_pure (hQ () ρ acc f₁ h₁ tk₁ o g₁ st₁ hf₁ hD₁ (T.mono k₁.le hacc) (h2 rfl))
theorem CL.loop {e : Expr} {d : Nat} {tgt : Expr} {ip : Pos} {x : Str} {xp : Pos} {ifs : List Expr} {tail : Env → Addr → Sem Unit} {vs : List V} {acc : β} {Post : List Bd → β → Prop}
    (hc : IsComp e) (hform : ∀ (env : Env) (D I : Addr), compTurn e d (.ref I) (.ref D) env = (standAt ip >>= fun _ => pyNext (.ref I) >>= fun r => match r with
      | none => pure (.done .next)
      | some v => assign (.Name x xp) env v >>= fun _ => turnL ifs tail env D >>= fun _ => again (.compLoop e d (.ref I) (.ref D) env)))
    (Inv : Nat → List Bd → β → Prop) (ix : Nat) (h0 : Inv 0 ρ acc)
    (hturn : ∀ i v r acc, vs[i]? = some v → Inv i r acc → CXg T own W n sc (r.set ix (.imm v)) acc (turnL ifs tail) (Inv (i + 1)))
    (hend : ∀ r acc, Inv vs.length r acc → Post r acc) (how : own x)
    (hx : (vnames sc)[ix]? = some x) (hfr : (sc.names.lookup x == some .free) = false) :
    CLt T own W n sc ρ acc (fun env D I => .compLoop e d (.ref I) (.ref D) env) (Wk1 W vs) Post := by
  intro env A P f D o s R I fp wr S h₀ f₁ st hP hf hD hacc hDw hcap r hp hfw hle hR
  have W₁ := r.walk A st.pre.room.handled
  have hp2 : ∀ b ∈ wr, Pw P [D] s.heap b = none ∨ True := fun _ _ => .inr trivial
  refine codeAny_loop rfl (fun k s' => ∃ i ρ' acc' f' h' tk o', s' = { s with heap := h', toks := tk } ∧ St own W n sc ρ' env A (Pw (Pw P wr h') [D] h') f' h' ∧ Gr P f f' ∧ (∀ b ∈ wr, f' b = none) ∧ f' D = none ∧ h'.get? D = some o' ∧ T.R f' acc' o' ∧ S i h' ∧ Inv i ρ' acc' ∧ i ≤ vs.length ∧ k = vs.length + 1 - i) ?_ (vs.length + 1)
    ⟨0, ρ, acc, f, s.heap, s.toks, o, rfl, st, Gr.refl _ _, hfw, hf, hD, hacc, r.start, h0, Nat.zero_le _, rfl⟩
  rintro k s' ⟨i, ρ', acc', f', h', tk, o', rfl, st', g', hf', hfD, hD', hacc', hS, hI, hle', rfl⟩
  dsimp only
  show wpAny W.M _ (W.M.den (.compLoop e d (.ref I) (.ref D) env)) _ _ _
  rw [show W.M.den (.compLoop e d (.ref I) (.ref D) env) = _ from hc.loop W.prog W.w d I D env, hc.ul]
  refine wpAny_noted ?_
  rw [hform]
  refine wpAny_bind (wpAny_standAt (wpAny_bind ?_))
  have swap : ∀ hh : Heap, Pw (Pw P wr hh) [D] hh = Pw (Pw P [D] hh) wr hh := fun hh => by
    funext b
    unfold Pw
    by_cases h1 : b ∈ wr <;> by_cases h2 : b ∈ [D] <;> simp [h1, h2]
  have hpD : ∀ (hh : Heap), ∀ b ∈ wr, Pw P [D] hh b = none := fun hh b hb => by
    have : b ∉ [D] := fun hm => hDw (List.mem_singleton.mp hm ▸ hb)
    simp [Pw, this, hp b hb]
  have hcapD : ∀ hh : Heap, ∀ x c, (own x → env.kindOf x ≠ some .cell) → env.cells.lookup x = some c → Pw P [D] hh c ≠ none := fun hh x c h1 h2 => by
    have h3 := hcap x c h1 h2
    have : c ∉ [D] := fun hm => h3 (List.mem_singleton.mp hm ▸ hP)
    simpa [Pw, this] using h3
  by_cases hlt : i < vs.length
  · refine W₁.item i _ _ _ hlt hS fun u h₂ tk₂ hu hS₂ hk₂ => ?_
    obtain ⟨v, hv, hr⟩ := hu
    rw [swap] at st'
    have hD₂ : h₂.get? D = some o' := hk₂ D _ hDw hD'
    have eD : Pw P [D] h' = Pw P [D] h₂ := by
      funext b; unfold Pw; split
      · rename_i hb; rw [List.mem_singleton.mp hb, hD', hD₂]
      · rfl
    have st₂ := st'.moved hk₂ hf' (r.there i h' hS) (hpD h') (hcapD h')
    rw [eD, ← swap] at st₂
    refine wpAny_bind (wpAny_assign_Name (st₂.store (s := { s with heap := h₂, toks := tk₂ }) hx (BdOk.imm (hr.mono (hle.trans g'.le))) hfr (how := how) fun h₃ tk₃ st₃ => ?_))
    have hD₃ : h₃.get? D = some o' := (st₃.pin D o' (by simp [Pw, hD₂])).1 (T.nf hacc').tab
    have keep₃ : ∀ b ∈ wr, h₃.get? b = h₂.get? b := fun b hb => by
      obtain ⟨o, ho, hnf⟩ := r.there (i + 1) h₂ hS₂ b hb
      have : b ∉ [D] := fun hm => hDw (List.mem_singleton.mp hm ▸ hb)
      rw [ho]; exact (st₃.pin b o (by simp [Pw, this, hb, ho])).1 hnf.tab
    have eP : Pw P wr h₃ = Pw P wr h₂ := by
      funext b; unfold Pw; split
      · rename_i hb; exact keep₃ b hb
      · rfl
    have eP' : Pw (Pw P wr h₂) [D] h₂ = Pw (Pw P wr h₂) [D] h₃ := by
      funext b; unfold Pw; split
      · rename_i hb; rw [List.mem_singleton.mp hb, hD₂, hD₃]
      · rfl
    rw [eP'] at st₃
    have hPwD : Pw P wr h₂ D = none := by simp [Pw, hDw, hP]
    refine wpAny_bind (hturn i v ρ' acc' hv hI env A (Pw P wr h₂) f' D o' { s with heap := h₃, toks := tk₃ } _ _ st₃ hPwD hfD hD₃ hacc' (fun x c h1 h2 => fun h3 => hcap x c h1 h2 ?_) fun a ρ₄ acc₄ f₄ h₄ tk₄ o₄ g₄ st₄ hf₄ hD₄ hacc₄ hI₄ => ?_)
    · by_cases hm : c ∈ wr
      · exact absurd (hp c hm) (hcap x c h1 h2)
      · simpa [Pw, hm] using h3
    · have keep₄ : ∀ b ∈ wr, h₄.get? b = h₂.get? b := fun b hb => by
        obtain ⟨o, ho, hnf⟩ := r.there (i + 1) h₂ hS₂ b hb
        have : b ∉ [D] := fun hm => hDw (List.mem_singleton.mp hm ▸ hb)
        rw [ho]; exact (st₄.pin b o (by simp [Pw, this, hb, ho])).1 hnf.tab
      have eP₄ : Pw P wr h₄ = Pw P wr h₂ := by
        funext b; unfold Pw; split
        · rename_i hb; exact keep₄ b hb
        · rfl
      rw [← eP₄] at st₄ g₄
      have hf₄' : ∀ b ∈ wr, f₄ b = none := fun b hb => by
        cases q : f₄ b with
        | none => rfl
        | some o =>
          rcases g₄.new b o q with q' | q'
          · rw [hf' b hb] at q'; cases q'
          · obtain ⟨o', ho'⟩ := r.there (i + 1) h₂ hS₂ b hb
            simp [Pw, hb, keep₄ b hb, ho'] at q'
      refine wpAny_pure ⟨rfl, vs.length + 1 - (i + 1), by omega, i + 1, ρ₄, acc₄, f₄, h₄, tk₄, o₄, rfl, st₄, g'.trans (g₄.base (pw_base hp)), hf₄', hf₄, hD₄, hacc₄, ?_, hI₄, hlt, rfl⟩
      refine W₁.frame _ _ _ hS₂ fun b hb o e => ?_
      rcases r.foot b hb with hb | ⟨o', ho'⟩
      · rw [keep₄ b hb]; exact e
      · have h1 := hle.trans g'.le b o' ho'
        have h5 := st₄.pre.sub b o' (g₄.le b o' h1)
        have h6 := st₂.pre.sub b o' h1
        rw [h6] at e; cases e; exact h5
  · have hin : i = vs.length := by omega
    subst hin
    refine W₁.done _ _ _ hS fun h₂ tk₂ hk₂ => wpAny_pure ?_
    rw [swap] at st'
    have hD₂ : h₂.get? D = some o' := hk₂ D _ hDw hD'
    have eD : Pw P [D] h' = Pw P [D] h₂ := by
      funext b; unfold Pw; split
      · rename_i hb; rw [List.mem_singleton.mp hb, hD', hD₂]
      · rfl
    have st₂ := st'.moved hk₂ hf' (r.there _ h' hS) (hpD h') (hcapD h')
    rw [eD] at st₂
    exact hR ρ' acc' f' h₂ tk₂ o' g' (st₂.free (pw_base (hpD h₂)) (hcapD h₂)) hfD hD₂ hacc' (hend _ _ hI)
theorem form1 {elt : Expr} {x : Str} {xp : Pos} {iter : Expr} {ifs : List Expr} {scope : Scope} {cpos : Pos} (env : Env) (D I : Addr) :
    compTurn (.ListComp elt [⟨.Name x xp, iter, ifs, 0⟩] scope cpos) 0 (.ref I) (.ref D) env = (standAt iter.pos >>= fun _ => pyNext (.ref I) >>= fun r => match r with
      | none => pure (.done .next)
      | some v => assign (.Name x xp) env v >>= fun _ => turnL ifs (emitL elt) env D >>= fun _ => again (.compLoop (.ListComp elt [⟨.Name x xp, iter, ifs, 0⟩] scope cpos) 0 (.ref I) (.ref D) env)) := by
  rw [compTurn_list]
  refine congrArg (fun k => standAt iter.pos >>= k) (funext fun _ => congrArg (fun k => pyNext (.ref I) >>= k) (funext fun r => ?_))
  cases r with
  | none => rfl
  | some v =>
    show (letOwnedTupleGo (.Name x xp) (.ref I) v >>= fun _ => _) = _
    rw [show letOwnedTupleGo (.Name x xp) (.ref I) v = pure () from rfl, pure_bind]
    refine congrArg (fun k => assign (.Name x xp) env v >>= k) (funext fun _ => ?_)
    unfold turnL
    rw [bind_assoc]
    refine congrArg (fun k => _ >>= k) (funext fun ok => ?_)
    cases ok with
    | true => rfl
    | false => rfl
/-- the tail of a clause that another follows -/
noncomputable def nestL (e : Expr) (g : Comprehension) (env : Env) (D : Addr) : Sem Unit := do
  let x ← eval g.iter env
  standAt g.iter.pos
  let x ← foldedSetIterable g.iter env x
  let _ ← runOwn (.compStart e 1 (← holding [x] (pyIter x)) (.ref D) env) env
theorem form2a {elt : Expr} {x : Str} {xp : Pos} {iter : Expr} {ifs : List Expr} {tgt' iter' : Expr} {ifs' : List Expr} {scope : Scope} {cpos : Pos} (env : Env) (D I : Addr) :
    compTurn (.ListComp elt [⟨.Name x xp, iter, ifs, 0⟩, ⟨tgt', iter', ifs', 0⟩] scope cpos) 0 (.ref I) (.ref D) env = (standAt iter.pos >>= fun _ => pyNext (.ref I) >>= fun r => match r with
      | none => pure (.done .next)
      | some v => assign (.Name x xp) env v >>= fun _ => turnL ifs (nestL (.ListComp elt [⟨.Name x xp, iter, ifs, 0⟩, ⟨tgt', iter', ifs', 0⟩] scope cpos) ⟨tgt', iter', ifs', 0⟩) env D >>= fun _ =>
          again (.compLoop (.ListComp elt [⟨.Name x xp, iter, ifs, 0⟩, ⟨tgt', iter', ifs', 0⟩] scope cpos) 0 (.ref I) (.ref D) env)) := by
  show (standAt iter.pos >>= fun _ => pyNext (.ref I) >>= fun r => _) = _
  refine congrArg (fun k => standAt iter.pos >>= k) (funext fun _ => congrArg (fun k => pyNext (.ref I) >>= k) (funext fun r => ?_))
  cases r with
  | none => rfl
  | some v =>
    show (letOwnedTupleGo (.Name x xp) (.ref I) v >>= fun _ => _) = _
    rw [show letOwnedTupleGo (.Name x xp) (.ref I) v = pure () from rfl, pure_bind]
    refine congrArg (fun k => assign (.Name x xp) env v >>= k) (funext fun _ => ?_)
    unfold turnL
    rw [bind_assoc]
    refine congrArg (fun k => _ >>= k) (funext fun ok => ?_)
    cases ok with
    | true =>
      show (eval iter' env >>= fun x1 => standAt iter'.pos >>= fun _ => foldedSetIterable iter' env x1 >>= fun x2 => holding [x2] (pyIter x2) >>= fun it =>
        runOwn (.compStart (.ListComp elt [⟨.Name x xp, iter, ifs, 0⟩, ⟨tgt', iter', ifs', 0⟩] scope cpos) 1 it (.ref D) env) env >>= fun _ => again (.compLoop (.ListComp elt [⟨.Name x xp, iter, ifs, 0⟩, ⟨tgt', iter', ifs', 0⟩] scope cpos) 0 (.ref I) (.ref D) env)) = _
      rw [if_pos rfl]
      unfold nestL
      simp only [bind_assoc, pure_bind]
    | false => rfl
theorem form2b {elt : Expr} {g : Comprehension} {x : Str} {xp : Pos} {iter : Expr} {ifs : List Expr} {scope : Scope} {cpos : Pos} (env : Env) (D I : Addr) :
    compTurn (.ListComp elt [g, ⟨.Name x xp, iter, ifs, 0⟩] scope cpos) 1 (.ref I) (.ref D) env = (standAt iter.pos >>= fun _ => pyNext (.ref I) >>= fun r => match r with
      | none => pure (.done .next)
      | some v => assign (.Name x xp) env v >>= fun _ => turnL ifs (emitL elt) env D >>= fun _ => again (.compLoop (.ListComp elt [g, ⟨.Name x xp, iter, ifs, 0⟩] scope cpos) 1 (.ref I) (.ref D) env)) := by
  show (standAt iter.pos >>= fun _ => pyNext (.ref I) >>= fun r => _) = _
  refine congrArg (fun k => standAt iter.pos >>= k) (funext fun _ => congrArg (fun k => pyNext (.ref I) >>= k) (funext fun r => ?_))
  cases r with
  | none => rfl
  | some v =>
    show (letOwnedTupleGo (.Name x xp) (.ref I) v >>= fun _ => _) = _
    rw [show letOwnedTupleGo (.Name x xp) (.ref I) v = pure () from rfl, pure_bind]
    refine congrArg (fun k => assign (.Name x xp) env v >>= k) (funext fun _ => ?_)
    unfold turnL
    rw [bind_assoc]
    refine congrArg (fun k => _ >>= k) (funext fun ok => ?_)
    cases ok with
    | true => rfl
    | false => rfl
theorem CL.start {e : Expr} {d : Nat} {g : Comprehension} {vs : List V} {acc : β} {Post : List Bd → β → Prop} (hc : IsComp e) (hg : (clausesOf e)[d]? = some g) (ha : (g.is_async != 0) = false)
    (h : CLt T own W n sc ρ acc (fun env D I => .compLoop e d (.ref I) (.ref D) env) (Wk1 W vs) Post) :
    CLt T own W n sc ρ acc (fun env D I => .compStart e d (.ref I) (.ref D) env) (Wk1 W vs) Post := by
  intro env A P f D o s R I fp wr S h₀ f₁ st hP hf hD hacc hDw hcap r hp hfw hle hR
  have W₁ := r.walk A st.pre.room.handled
  have key := h env A P f D o s R I fp wr S h₀ f₁ st hP hf hD hacc hDw hcap r hp hfw hle hR
  refine codeAny_of_tree ?_
  show wpAny W.M _ (W.M.den (.compStart e d (.ref I) (.ref D) env)) _ _ _
  rw [show W.M.den (.compStart e d (.ref I) (.ref D) env) = _ from hc.start W.prog W.w d I D env, hc.us]
  refine wpAny_notedAt ?_
  unfold compStart
  rw [hg]
  simp only [Option.elim_some, ha, Bool.false_eq_true, if_false]
  refine wpAny_bind (wpAny_askSetting (wpAny_ite ?_))
  split
  · exact wpAny_pure (And.intro rfl key)
  · refine wpAny_bind (wpAny_rule ?_)
    exact wpAny_bind (wpAny_standAt (wpAny_bind (W₁.self 0 s _ _ r.start (wpAny_pure (And.intro rfl key)))))
/-- the next clause's loop, run within a turn -/
theorem CX.nest {e : Expr} {g : Comprehension} {vs : List V} {acc : β} {Post : List Bd → β → Prop} (hi : HI W n sc ρ g.iter vs)
    (h' : CLt T own W n sc ρ acc (fun env D I => .compStart e 1 (.ref I) (.ref D) env) (Wk1 W vs) Post)
    (hs : ∀ env x, foldedSetIterable g.iter env x = pure x := by intro _ _; rfl) : CXg T own W n sc ρ acc (nestL e g) Post := by
  intro env A P f D o s Q E st hP hf hD hacc hcap hQ
  unfold nestL
  refine wpAny_bind (wpAny_mono (hi env A (Pw P [D] s.heap) f s (fun it s₁ => wpAny W.M A (runOwn (.compStart e 1 it (.ref D) env) env) (fun _ s₂ => Q () s₂) E s₁) E st.pre fun it f₁ h₁ tk₁ k₁ hit => ?_) (fun x s₁ h₁ => ?_) fun _ _ q => q)
  · obtain ⟨I, fp, wr, S, r⟩ := hit
    obtain rfl := r.it
    have hD₁ : h₁.get? D = some o := k₁.ext _ _ hD (T.nf hacc).tab
    have hf₁ : f₁ D = none := k₁.none' hf hD
    have hDw : D ∉ wr := fun hm => by rw [(r.fresh D hm).1] at hD; cases hD
    have hpd : ∀ b ∈ wr, Pw P [D] s.heap b = none := fun b hb => by
      cases q : Pw P [D] s.heap b with
      | none => rfl
      | some o => have := (r.fresh b hb).1; obtain ⟨o', h9⟩ := st.pin.there q; rw [h9] at this; cases this
    have hp : ∀ b ∈ wr, P b = none := fun b hb => by
      have h1 := hpd b hb
      have : b ∉ [D] := fun hm => hDw (List.mem_singleton.mp hm ▸ hb)
      simpa [Pw, this] using h1
    have st₁ := st.guard k₁ r.fresh hpd
    have swap : Pw (Pw P [D] s.heap) wr h₁ = Pw (Pw P wr h₁) [D] h₁ := by
      funext b
      unfold Pw
      by_cases h1 : b ∈ wr <;> by_cases h2 : b ∈ [D]
      · exact absurd (List.mem_singleton.mp h2 ▸ h1) hDw
      · simp [h1, h2]
      · rw [List.mem_singleton.mp h2]; simp [hDw, hD, hD₁]
      · simp [h1, h2]
    rw [swap] at st₁
    refine wpAny_runOwn (h' env A P f₁ D o { s with heap := h₁, toks := tk₁ } _ I fp wr S s.heap f₁ st₁ hP hf₁ hD₁ (T.mono k₁.le hacc) hDw hcap ⟨rfl, r.walk, r.start, r.fresh, r.there, r.foot⟩ hp (fun b hb => (r.fresh b hb).2) (Le.refl _)
      fun ρ' acc' f' h' tk o' g st' h3 h4 h5 h6 => ?_)
    exact hQ () ρ' acc' f' h' tk o' (((k₁.gr st.pin).base (pw_base fun b hb => by rw [List.mem_singleton.mp hb]; exact hP)).trans g) st' h3 h4 h5 h6
  · refine wpAny_bind (wpAny_standAt (wpAny_bind (wpAny_of_eq (hs env x) (wpAny_bind (wpAny_holding (wpAny_mono h₁ (fun it s₂ h₂ => ?_) fun _ _ q => q))))))
    exact wpAny_bind (wpAny_mono h₂ (fun _ s₃ q => wpAny_pure q) fun _ _ q => q)
end Mine
end

/-! part M10 -/
section
open PySem PySem.W PyProof.Rows PySem.Calls
namespace Mine
variable {W : Wd} {n : Nat} {sc : Scope} {ρ : List Bd} {own : Str → Prop}

noncomputable def ownOf (scope : Scope) (x : Str) : Prop := scope.names.lookup x ≠ some .free
theorem cellsFrom_app : ∀ (l : List (Str × NameKind)) (k : Nat) (acc : List (Str × Addr)), cellsFrom k l acc = cellsFrom k l [] ++ acc
  | [], k, acc => rfl
  | (a, kd) :: r, k, acc => by
    unfold cellsFrom
    split
    · rw [cellsFrom_app r (k + 1) ((a, k) :: acc), cellsFrom_app r (k + 1) [(a, k)]]; simp
    · exact cellsFrom_app r k acc
theorem cellsFrom_mem {y : Str} : ∀ (l : List (Str × NameKind)) (k : Nat), (∃ c, (y, c) ∈ cellsFrom k l []) ↔ (y, NameKind.cell) ∈ l
  | [], k => by simp [cellsFrom]
  | (a, kd) :: r, k => by
    unfold cellsFrom
    split
    · rename_i hk
      have hk' : kd = .cell := by simpa using hk
      subst hk'
      rw [cellsFrom_app r (k + 1) [(a, k)]]
      constructor
      · rintro ⟨c, hc⟩
        rcases List.mem_append.mp hc with h | h
        · exact List.mem_cons_of_mem _ ((cellsFrom_mem r (k + 1)).mp ⟨c, h⟩)
        · have := List.mem_singleton.mp h; cases this; exact List.mem_cons_self
      · intro h
        rcases List.mem_cons.mp h with e | h
        · cases e; exact ⟨k, List.mem_append.mpr (.inr (List.mem_singleton.mpr rfl))⟩
        · obtain ⟨c, hc⟩ := (cellsFrom_mem r (k + 1)).mpr h
          exact ⟨c, List.mem_append.mpr (.inl hc)⟩
    · rename_i hk
      rw [cellsFrom_mem r k]
      constructor
      · exact fun h => List.mem_cons_of_mem _ h
      · intro h
        rcases List.mem_cons.mp h with e | h
        · cases e; exact absurd rfl hk
        · exact h
theorem lookup_mem_nodup {α β : Type} [BEq α] [LawfulBEq α] {l : List (α × β)} {a : α} {b : β} (hn : (l.map (·.1)).Nodup) (h : (a, b) ∈ l) : l.lookup a = some b := by
  induction l with
  | nil => simp at h
  | cons p r ih =>
    obtain ⟨x, y⟩ := p
    simp only [List.map_cons, List.nodup_cons] at hn
    rcases List.mem_cons.mp h with e | h1
    · cases e; simp
    · have h2 : x ≠ a := by intro e; exact hn.1 (List.mem_map.mpr ⟨(a, b), h1, e.symm⟩)
      have : (a == x) = false := by rw [beq_eq_false_iff_ne]; exact Ne.symm h2
      simp only [List.lookup_cons, this]
      exact ih hn.2 h1
theorem lookup_mem {α β : Type} [BEq α] [LawfulBEq α] : ∀ {l : List (α × β)} {a : α} {b : β}, l.lookup a = some b → (a, b) ∈ l
  | (x, y) :: r, a, b, h => by
    cases hb : a == x with
    | true => simp only [List.lookup_cons, hb] at h; cases h; rw [beq_iff_eq.mp hb]; exact List.mem_cons_self
    | false => simp only [List.lookup_cons, hb] at h; exact List.mem_cons_of_mem _ (lookup_mem h)
theorem relS_lookup {scope sc : Scope} {x : Str} : (relS scope sc).names.lookup x = (scope.names.lookup x).map fun k => if (k == .free && sc.kind == .function && sc.names.lookup x == some .cell) then .cell else k := by
  show (scope.names.map _).lookup x = _
  induction scope.names with
  | nil => rfl
  | cons p r ih =>
    obtain ⟨a, k⟩ := p
    rw [List.map_cons]
    cases hb : x == a with
    | true =>
      have := beq_iff_eq.mp hb; subst this
      simp only [List.lookup_cons, hb, Option.map_some]
      split <;> simp [List.lookup_cons]
    | false =>
      dsimp only
      have e1 : ((a, k) :: r).lookup x = r.lookup x := by simp only [List.lookup_cons, hb]
      rw [e1, ← ih]
      split <;> simp only [List.lookup_cons, hb]
theorem capsOk_at {outer inner : List Str} {caps : List (Option Nat)} {scope sc : Scope} (h : capsOk outer inner caps scope sc = true) :
    caps.length = inner.length ∧ ∀ (j : Nat) (x : Str), inner[j]? = some x →
      (∃ i : Nat, caps[j]? = some (some i) ∧ outer[i]? = some x ∧ scope.names.lookup x = some .free ∧ (sc.names.lookup x = some .cell ∨ sc.names.lookup x = some .free)) ∨
      (caps[j]? = some none ∧ (scope.names.lookup x = some .local ∨ scope.names.lookup x = some .cell)) := by
  unfold capsOk at h
  simp only [Bool.and_eq_true, beq_iff_eq, List.all_eq_true] at h
  refine ⟨h.1, fun j x hx => ?_⟩
  have hj : j < inner.length := (List.getElem?_eq_some_iff.mp hx).1
  have := h.2 j (List.mem_range.mpr hj)
  rw [hx] at this
  cases hc : caps[j]? with
  | none => rw [hc] at this; cases this
  | some o =>
    rw [hc] at this
    cases o with
    | none => right; refine ⟨rfl, ?_⟩; simpa using this
    | some i => left; refine ⟨i, rfl, ?_⟩; simpa [and_assoc] using this

theorem comp_run {β : Type} {T : AccT β} {e : Expr} {g : Comprehension} {gs : List Comprehension} {scope : Scope} {pos : Pos} {K : WkT} {acc0 out : β} {o0 : Obj} {newAcc : Sem Value} {caps : List (Option Nat)} {use : Option (Value → Sem Unit)}
    {env : Env} {A : Around} {P f : FH} {s : Shared} {Q : Value → Shared → Prop} {E : Value → Shared → Prop}
    (hmk : ∀ (A : Around) (s : Shared) (Q : Value → Shared → Prop) (E : Value → Shared → Prop), Q (.ref s.heap.objs.size) { s with heap := s.heap.push o0 } → wpAny W.M A newAcc Q E s) (hfd : o0.isFreed = false) (h00 : ∀ f, T.R f acc0 o0) (hg : clausesOf e = g :: gs) (hs : ∀ env x, foldedSetIterable g.iter env x = pure x) (hfm : Framed K) (hi : HIg W n sc ρ g.iter K) (ok : CompOk scope sc caps) (him : ∀ i, some i ∈ caps → ∃ b, ρ[i]? = some b ∧ immOnly b = true)
    (h : CLt T (ownOf scope) W n (relS scope sc) (rho0 ρ caps) acc0 (fun env D I => .compStart e 0 (.ref I) (.ref D) env) K (fun _ a => a = out))
    (p : Pre W n sc ρ env A P f s.heap)
    (hK : ∀ f' h' tk D o C mm, s.heap.get? D = none → f' D = none → h'.get? D = some o → T.R f' out o → s.heap.get? C = none → f' C = none → h'.Ns C mm → D ≠ C → (D == sysModules) = false → Ok W f f' s.heap h' →
      compPost W.M A E use Q (.ref D) C (.ok .next) { s with heap := h', toks := tk }) :
    wpAny W.M A (comprehension e scope env pos newAcc false (eval g.iter env) use) Q E s := by
  obtain ⟨hcl, hcaps⟩ := capsOk_at ok.caps
  have hvn : ∀ x, (∃ k, (x, k) ∈ scope.names ∧ k = NameKind.free) → x ∈ vnames scope := by
    rintro x ⟨k, hm, rfl⟩
    have hx0 : x ≠ (".0" : Str) := ok.dot _ hm rfl
    unfold vnames
    exact List.mem_map.mpr ⟨(x, .free), List.mem_filter.mpr ⟨hm, by simp [hx0]⟩, rfl⟩
  -- what is captured
  have capt : ∀ x, (∃ k, (x, k) ∈ scope.names ∧ k = NameKind.free) → ∃ (j i : Nat) (b : Bd) (o : Option Value) (c : Addr), (vnames scope)[j]? = some x ∧ caps[j]? = some (some i) ∧ ρ[i]? = some b ∧ immOnly b = true ∧ env.cells.lookup x = some c ∧ s.heap.IsCell c o ∧ BdOk env.locals P f s.heap o b ∧ (env.kindOf x = some .cell ∨ env.kindOf x = some .free) := by
    intro x hx
    obtain ⟨j, hj⟩ := List.getElem?_of_mem (hvn x hx)
    obtain ⟨k, hm, rfl⟩ := hx
    have hlk := lookup_mem_nodup ok.nodup hm
    rcases hcaps j x hj with ⟨i, h1, h2, h3, h4⟩ | ⟨h1, h2⟩
    · obtain ⟨b, hb, hb'⟩ := him i (List.mem_of_getElem? h1)
      obtain ⟨y, o, e1, e2, e3⟩ := p.vars i b hb
      rw [p.eok.scope, h2] at e1; cases e1
      have hkd : env.kindOf x = some .cell ∨ env.kindOf x = some .free := by
        show env.scope.names.lookup x = _ ∨ env.scope.names.lookup x = _
        rw [p.eok.scope]; exact h4
      rcases e2 with ⟨k, _⟩ | ⟨k, c, hc, hv⟩
      · rcases hkd with q | q <;> rw [q] at k <;> cases k
      · exact ⟨j, i, b, o, c, hj, h1, hb, hb', hc, hv, e3, hkd⟩
    · rcases h2 with h2 | h2 <;> rw [hlk] at h2 <;> cases h2
  obtain ⟨cl, hclos, hcl1, hcl2⟩ := closureFor_run (env := env) (scope := scope) (fun x hx hk => by
    obtain ⟨y, k⟩ := x
    obtain ⟨_, _, _, _, c, _, _, _, _, hc, _⟩ := capt y ⟨k, hx, hk⟩
    rw [hc]; rfl) ok.nodup
  refine wpAny_comprehension_free (g := g) (gs := gs) hg (hs env) hclos ok.kind (fun x hx hl => lookup_mem_nodup ok.nodup (by obtain ⟨a, k⟩ := x; simp only at hl; subst hl; exact hx)) ?_
  refine hi env A P f s _ E p fun it f₁ h₁ tk₁ k₁ hit => ?_
  obtain ⟨I, fp, wr, S, r⟩ := hit
  obtain rfl := r.it
  have p₁ := p.step k₁
  refine hmk _ _ _ _ ?_
  refine wpAny_newCompEnv ?_
  dsimp only
  generalize hD : h₁.objs.size = D
  have hDn : h₁.get? D = none := by rw [← hD]; exact size_none _
  have hDsys : (D == sysModules) = false := by
    obtain ⟨og, _, _, hog, _⟩ := W.g
    obtain ⟨og', hog'⟩ := k₁.there (p.bk _ _ hog)
    have h3 : mainGlobals < D := by rw [← hD]; exact Heap.lt_size hog'
    rw [beq_eq_false_iff_ne]
    intro q
    rw [q] at h3
    exact absurd h3 (by decide)
  generalize hH2 : h₁.push o0 = H2
  have hH2D : H2.get? D = some o0 := by rw [← hH2, ← hD]; exact Heap.get?_push_size _ hfd
  have up2 : ∀ b o, h₁.get? b = some o → H2.get? b = some o := fun b o e => by rw [← hH2]; exact Heap.get?_push_of_some _ e
  have hH2s : H2.objs.size = h₁.objs.size + 1 := by rw [← hH2, Heap.size_push]
  generalize hC : H2.objs.size = C
  have hCn : H2.get? C = none := by rw [← hC]; exact size_none _
  have hCD : C ≠ D := by rintro rfl; rw [hCn] at hH2D; cases hH2D
  have okc := cellsFrom_ok scope.names (H2.push { cls := .type "dict", data := .dict #[] }) (C + 1) [] ⟨fun _ _ hm => (nomatch hm), List.Pairwise.nil⟩ (by rw [Heap.size_push, hC]; exact Nat.le_refl _)
  rw [Heap.size_push, hC] at okc
  generalize hH4 : pushCells (H2.push { cls := .type "dict", data := .dict #[] }) scope.names = H4 at okc ⊢
  have up4 : ∀ b o, H2.get? b = some o → H4.get? b = some o := fun b o e => by rw [← hH4]; exact pushCells_keeps _ _ b o (Heap.get?_push_of_some _ e)
  have hns : H4.Ns C (fun _ => none) := by
    rw [← hH4, ← hC]; exact (Heap.Ns.new H2 (.type "dict")).keeps (pushCells_keeps _ _)
  have oldE : Ext s.heap H4 := fun b o e c => up4 b o (up2 b o (k₁.ext b o e c))
  have sn : ∀ b, H2.get? b = none → s.heap.get? b = none := fun b e => by
    cases q : s.heap.get? b with
    | none => rfl
    | some o => obtain ⟨o', h9⟩ := k₁.there q; rw [up2 b o' h9] at e; cases e
  have hDs : s.heap.get? D = none := k₁.gone hDn
  have hCs := sn C hCn
  have hDw : D ∉ wr := fun hm => by obtain ⟨o, ho, _⟩ := r.there 0 h₁ r.start D hm; rw [hDn] at ho; cases ho
  have hCw : C ∉ wr := fun hm => by obtain ⟨o, ho, _⟩ := r.there 0 h₁ r.start C hm; rw [up2 C o ho] at hCn; cases hCn
  have hf₁D : f₁ D = none := new_none p₁.sub hDn
  have hf₁C : f₁ C = none := by
    cases q : f₁ C with
    | none => rfl
    | some o => rw [up2 C o (p₁.sub C o q)] at hCn; cases hCn
  -- the cells of the frame
  generalize hcells : cellsFrom (C + 1) scope.names cl = cells
  rw [cellsFrom_app] at hcells
  have cellNew : ∀ x c, scope.names.lookup x = some .cell → cells.lookup x = some c → C < c ∧ H4.IsCell c none := fun x c hx hc => by
    rw [← hcells, List.lookup_append] at hc
    obtain ⟨c', hc'⟩ := (cellsFrom_mem (y := x) scope.names (C + 1)).mpr (lookup_mem hx)
    obtain ⟨c'', hc''⟩ : ∃ c, (cellsFrom (C + 1) scope.names []).lookup x = some c := by
      cases q : (cellsFrom (C + 1) scope.names []).lookup x with
      | some c => exact ⟨c, rfl⟩
      | none => rw [List.lookup_eq_none_iff] at q; have := q _ hc'; simp at this
    rw [hc''] at hc
    have hcc : c'' = c := by simpa using hc
    subst hcc
    have := okc.empty x c'' (lookup_mem hc'')
    exact ⟨this.2, this.1⟩
  have cellOld : ∀ x c, scope.names.lookup x ≠ some .cell → cells.lookup x = some c → ∃ k, (x, k) ∈ scope.names ∧ k = NameKind.free ∧ env.cells.lookup x = some c := fun x c hx hc => by
    rw [← hcells, List.lookup_append] at hc
    have h1 : (cellsFrom (C + 1) scope.names []).lookup x = none := by
      cases q : (cellsFrom (C + 1) scope.names []).lookup x with
      | none => rfl
      | some c' => exact absurd (lookup_mem_nodup ok.nodup ((cellsFrom_mem (y := x) scope.names (C + 1)).mp ⟨c', lookup_mem q⟩)) hx
    rw [h1] at hc
    have hc' : cl.lookup x = some c := by simpa using hc
    by_cases hfr : ∃ k, (x, k) ∈ scope.names ∧ k = NameKind.free
    · obtain ⟨k, hm, hk⟩ := hfr
      exact ⟨k, hm, hk, by rw [← hcl1 x ⟨k, hm, hk⟩]; exact hc'⟩
    · rw [hcl2 x hfr] at hc'; cases hc'
  have cellThere : ∀ x, scope.names.lookup x = some .cell → ∃ c, cells.lookup x = some c := fun x hx => by
    obtain ⟨c', hc'⟩ := (cellsFrom_mem (y := x) scope.names (C + 1)).mpr (lookup_mem hx)
    cases q : cells.lookup x with
    | some c => exact ⟨c, rfl⟩
    | none =>
      rw [List.lookup_eq_none_iff] at q
      have := q (x, c') (by rw [← hcells]; exact List.mem_append.mpr (.inl hc'))
      simp at this
  have cellFree : ∀ x, (∃ k, (x, k) ∈ scope.names ∧ k = NameKind.free) → cells.lookup x = env.cells.lookup x := fun x hx => by
    obtain ⟨k, hm, rfl⟩ := hx
    have hne : scope.names.lookup x ≠ some .cell := by rw [lookup_mem_nodup ok.nodup hm]; simp
    rw [← hcells, List.lookup_append]
    have h1 : (cellsFrom (C + 1) scope.names []).lookup x = none := by
      cases q : (cellsFrom (C + 1) scope.names []).lookup x with
      | none => rfl
      | some c' => exact absurd (lookup_mem_nodup ok.nodup ((cellsFrom_mem (y := x) scope.names (C + 1)).mp ⟨c', lookup_mem q⟩)) hne
    rw [h1, hcl1 x ⟨_, hm, rfl⟩]; rfl
  have hkind : ∀ x, (relS scope sc).names.lookup x = some .cell → ownOf scope x → scope.names.lookup x = some .cell := fun x hx ho => by
    rw [relS_lookup] at hx
    cases q : scope.names.lookup x with
    | none => rw [q] at hx; cases hx
    | some k =>
      rw [q] at hx
      cases k with
      | cell => rfl
      | free => exact absurd q ho
      | _ => simp at hx
  have oldLt : ∀ b o, s.heap.get? b = some o → b < C := fun b o e => by obtain ⟨o', h9⟩ := k₁.there e; rw [← hC]; exact Heap.lt_size (up2 b o' h9)
  let cenv : Env := { scope := relS scope sc, locals := C, globals := env.globals, cells := cells, qual := env.qual, func := none, code := env.code, frame := env.frame, builtins := env.builtins }
  have hPw : ∀ a, a ∉ wr → a ≠ D → Pw (Pw s.heap.get? wr H4) [D] H4 a = s.heap.get? a := fun a h1 h2 => by simp [Pw, h1, h2]
  have wrLt : ∀ b ∈ wr, b < C := fun b hb => by
    obtain ⟨o, ho, _⟩ := r.there 0 h₁ r.start b hb
    rw [← hC]; exact Heap.lt_size (up2 b o ho)
  have DLt : D < C := by rw [← hC]; exact Heap.lt_size hH2D
  have capEx : ∀ x c, (ownOf scope x → cenv.kindOf x ≠ some .cell) → cells.lookup x = some c → ∃ o, s.heap.get? c = some o := fun x c h0 h1 => by
    have hne : scope.names.lookup x ≠ some .cell := fun e => h0 (by show scope.names.lookup x ≠ some .free; rw [e]; simp) (by
      show (relS scope sc).names.lookup x = some .cell
      rw [relS_lookup, e]; rfl)
    obtain ⟨k, hm, hk, hc⟩ := cellOld x c hne h1
    obtain ⟨_, _, _, o, c', _, _, _, _, hc', ho, _⟩ := capt x ⟨k, hm, hk⟩
    rw [hc] at hc'; cases hc'
    obtain ⟨ob, hob, _⟩ := ho
    exact ⟨ob, hob⟩
  have St0 : St (ownOf scope) W n (relS scope sc) (rho0 ρ caps) cenv A (Pw (Pw s.heap.get? wr H4) [D] H4) f₁ H4 := by
    refine { pre := ⟨⟨rfl, ok.kind, p.eok.globals, p.eok.builtins, ?_, by rw [ok.vn]; exact ok.plain⟩, p.room, p₁.base.keep (fun a o e => up4 a o (up2 a o e)), fun a o e => up4 a o (up2 a o (p₁.sub a o e)), ?_⟩, pin := ?_, ns := ⟨_, hns⟩, locP := ?_, locF := hf₁C, cell := ?_, apart := ?_, len := ?_, capt := ?_ }
    · rw [ok.vn]
      unfold vnames
      exact ok.nodup.sublist (List.Sublist.map _ List.filter_sublist)
    · intro j b hb
      have hj : j < (vnames scope).length := by
        rw [← hcl]; have := (List.getElem?_eq_some_iff.mp hb).1; simpa [rho0] using this
      have hx := List.getElem?_eq_getElem hj
      refine ⟨(vnames scope)[j], ?_⟩
      rcases hcaps j _ hx with ⟨i, h1, h2, h3, h4⟩ | ⟨h1, h2⟩
      · obtain ⟨j', i', b', o, c, e1, e2, e3, e4, e5, e6, e7, e8⟩ := capt _ ⟨_, lookup_mem h3, rfl⟩
        have hjj : j' = j := nodup_idx (ok.nodup.sublist (List.Sublist.map _ List.filter_sublist)) e1 hx
        subst hjj
        rw [h1] at e2; cases e2
        have hbb : b = b' := by
          unfold rho0 at hb
          rw [List.getElem?_map, h1] at hb
          simp [e3] at hb; exact hb.symm
        subst hbb
        refine ⟨o, by show (vnames (relS scope sc))[j']? = _; rw [ok.vn]; exact hx, .inr ⟨?_, c, ?_, IsCell.keepsT e6 oldE⟩, ?_⟩
        · show (relS scope sc).names.lookup _ = _ ∨ (relS scope sc).names.lookup _ = _
          rw [relS_lookup, h3]
          simp only [Option.map_some]
          split
          · exact .inl rfl
          · exact .inr rfl
        · show cells.lookup _ = _
          rw [cellFree _ ⟨_, lookup_mem h3, rfl⟩]; exact e5
        · cases b with
          | unb => exact e7
          | imm v => obtain ⟨z, q1, q2⟩ := e7; exact ⟨z, q1, q2.mono k₁.le⟩
          | _ => cases e4
      · have hbb : b = .unb := by
          unfold rho0 at hb
          rw [List.getElem?_map, h1] at hb
          simpa using hb.symm
        subst hbb
        refine ⟨none, by show (vnames (relS scope sc))[j]? = _; rw [ok.vn]; exact hx, ?_, rfl⟩
        rcases h2 with h2 | h2
        · refine .inl ⟨?_, _, hns, rfl⟩
          show (relS scope sc).names.lookup _ = _
          rw [relS_lookup, h2]; rfl
        · obtain ⟨c, hc⟩ := cellThere _ h2
          refine .inr ⟨.inl ?_, c, hc, (cellNew _ c h2 hc).2⟩
          show (relS scope sc).names.lookup _ = _
          rw [relS_lookup, h2]; rfl
    · intro a o e
      unfold Pw at e
      split at e
      · exact ⟨fun _ => e, fun c => ⟨o, e, c⟩⟩
      · split at e
        · exact ⟨fun _ => e, fun c => ⟨o, e, c⟩⟩
        · exact ⟨oldE a o e, fun c => by obtain ⟨o', h1, h2⟩ := k₁.tab a o e c; exact ⟨o', up4 a o' (up2 a o' h1), h2⟩⟩
    · rw [hPw C hCw hCD]; exact hCs
    · intro x c h0 h1 h2
      obtain ⟨h3, h4⟩ := cellNew x c (hkind x h1 h0) h2
      have hcn : ∀ b, b < C → b ≠ c := fun b hb e => by rw [e] at hb; exact absurd hb (Nat.not_lt.mpr (Nat.le_of_lt h3))
      have hcs : s.heap.get? c = none := by
        cases q : s.heap.get? c with
        | none => rfl
        | some o => exact absurd rfl (hcn c (oldLt c o q))
      refine ⟨?_, ?_, _, h4⟩
      · rw [hPw c (fun hm => (hcn c (wrLt c hm)) rfl) (fun e => hcn c (e ▸ DLt) rfl)]; exact hcs
      · cases q : f₁ c with
        | none => rfl
        | some o =>
          have := up2 c o (p₁.sub c o q)
          have hlt : c < C := by rw [← hC]; exact Heap.lt_size this
          exact absurd rfl (hcn c hlt)
    · intro x c h0 h1 y c' h2 hne e
      subst e
      have h1 : cells.lookup x = some c' := h1
      have h2 : cells.lookup y = some c' := h2
      by_cases hxc : scope.names.lookup x = some .cell
      · obtain ⟨h3, _⟩ := cellNew x c' hxc h1
        by_cases hyc : scope.names.lookup y = some .cell
        · have l1 : (cellsFrom (C + 1) scope.names []).lookup x = some c' := by
            rw [← hcells, List.lookup_append] at h1
            obtain ⟨d, hd⟩ := (cellsFrom_mem (y := x) scope.names (C + 1)).mpr (lookup_mem hxc)
            cases q : (cellsFrom (C + 1) scope.names []).lookup x with
            | some c => rw [q] at h1; simpa using h1
            | none => rw [List.lookup_eq_none_iff] at q; have := q _ hd; simp at this
          have l2 : (cellsFrom (C + 1) scope.names []).lookup y = some c' := by
            rw [← hcells, List.lookup_append] at h2
            obtain ⟨d, hd⟩ := (cellsFrom_mem (y := y) scope.names (C + 1)).mpr (lookup_mem hyc)
            cases q : (cellsFrom (C + 1) scope.names []).lookup y with
            | some c => rw [q] at h2; simpa using h2
            | none => rw [List.lookup_eq_none_iff] at q; have := q _ hd; simp at this
          exact hne (name_of_addr okc.apart (lookup_mem l2) (lookup_mem l1))
        · obtain ⟨k, hm, hk, hc⟩ := cellOld y c' hyc h2
          obtain ⟨_, _, _, o, c2, _, _, _, _, hc2, ho, _⟩ := capt y ⟨k, hm, hk⟩
          rw [hc] at hc2; cases hc2
          obtain ⟨ob, hob, _⟩ := ho
          exact absurd (oldLt c' ob hob) (Nat.not_lt.mpr (Nat.le_of_lt h3))
      · obtain ⟨k, hm, hk, hc⟩ := cellOld x c' hxc h1
        subst hk
        exact h0 (lookup_mem_nodup ok.nodup hm)
    · rw [ok.vn, ← hcl]; simp [rho0]
    · intro x c h0 h1
      obtain ⟨o, ho⟩ := capEx x c h0 h1
      have hc1 : c ∉ wr := fun hm => by rw [(r.fresh c hm).1] at ho; cases ho
      have hc2 : c ≠ D := by rintro rfl; rw [hDs] at ho; cases ho
      rw [hPw c hc1 hc2, ho]; simp
  have r' : ItG s.heap f₁ H4 (.ref I) K I fp wr S := ⟨rfl, r.walk, hfm _ _ _ _ _ r.walk 0 _ _ r.start fun b hb o e => up4 b o (up2 b o e), r.fresh, r.there, r.foot⟩
  rw [show relabel scope env = relS scope sc from by rw [relS_eq, p.eok.scope]]
  refine h cenv A s.heap.get? f₁ D o0 { s with heap := H4, toks := tk₁ } _ I fp wr S s.heap f₁ St0 hDs hf₁D (up4 D _ hH2D) (h00 _) hDw (fun x c h0 h1 => by
    obtain ⟨o, ho⟩ := capEx x c h0 h1; rw [ho]; simp) r' (fun b hb => (r.fresh b hb).1) (fun b hb => (r.fresh b hb).2) (Le.refl _) fun ρ' acc' f' h' tk' o' g' st' hfD' hD' hacc' hout => ?_
  subst hout
  obtain ⟨mm, hmm⟩ := st'.ns
  have keepS : Pin s.heap.get? h' := fun a o e => st'.pin a o (by
    have : a ∉ [D] := fun hm => by rw [List.mem_singleton.mp hm, hDs] at e; cases e
    simpa [Pw, this] using e)
  refine hK f' h' tk' D o' C mm hDs hfD' hD' hacc' hCs st'.locF hmm (Ne.symm hCD) hDsys ⟨fun a o e c => (keepS a o e).1 c, fun a o e c => (keepS a o e).2 c, fun _ => st'.pre.base.tabs, k₁.le.trans g'.le, st'.pre.sub, fun a o e => ?_⟩
  rcases g'.new a o e with q | q
  · exact k₁.new a o q
  · exact .inr q
theorem mk_list : ∀ (A : Around) (s : Shared) (Q : Value → Shared → Prop) (E : Value → Shared → Prop), Q (.ref s.heap.objs.size) { s with heap := s.heap.push (lobj [] 0) } → wpAny W.M A (newList []) Q E s := fun A s Q E h =>
  wpAny_newObj_type h (by show ([] : List Value).toArray.size ≤ sizeLine; exact Nat.zero_le _)
theorem nil_list : ∀ f, accL.R f [] (lobj [] 0) := fun f => ⟨[], 0, rfl, .nil⟩
theorem firstIter_eq {g : Comprehension} {gs : List Comprehension} {env : Env} : firstIter (g :: gs) env = eval g.iter env := by cases g; rfl
theorem HE.compG {elt : Expr} {g : Comprehension} {gs : List Comprehension} {scope : Scope} {cpos : Pos} {K : WkT} {out : List V} {caps : List (Option Nat)}
    (hfm : Framed K) (hi : HIg W n sc ρ g.iter K) (ok : CompOk scope sc caps) (him : ∀ i, some i ∈ caps → ∃ b, ρ[i]? = some b ∧ immOnly b = true)
    (h : CLg (ownOf scope) W n (relS scope sc) (rho0 ρ caps) [] (fun env D I => .compStart (.ListComp elt (g :: gs) scope cpos) 0 (.ref I) (.ref D) env) K (fun _ a => a = out))
    (hs : ∀ env x, foldedSetIterable g.iter env x = pure x := by intro _ _; rfl) (ha : firstAsync (g :: gs) = false := by rfl) :
    HE W n sc ρ (.ListComp elt (g :: gs) scope cpos) (.freshL out) := by
  intro env A P f s Q E p hQ
  show wpAny W.M A (eval (.ListComp elt (g :: gs) scope cpos) env) Q E s
  rw [eval_ListComp, ha, firstIter_eq]
  refine comp_run (T := accL) (use := Option.none) mk_list rfl nil_list rfl hs hfm hi ok him h p fun f' h' tk D o C mm hD hfD hDo hr hC hfC hns hDC hsy k => ?_
  obtain ⟨xs, m, rfl, hr⟩ := hr
  refine ⟨mm, hns, fun h'' hs'' => ?_⟩
  refine hQ _ f' h'' tk ⟨fun a o e c => hs''.extBut a o (by rintro rfl; rw [hC] at e; cases e) (k.ext a o e c),
    fun a o e c => by obtain ⟨o', h1, h2⟩ := k.tab a o e c; exact ⟨o', hs''.extBut a o' (by rintro rfl; rw [hC] at e; cases e) h1, h2⟩,
    fun x q hq => (k.tabs x q hq).but (NF.ns hns) fun b o hb e => hs''.extBut b o hb e, k.le, fun a o e => hs''.extBut a o (by rintro rfl; rw [hfC] at e; cases e) (k.sub a o e), k.new⟩ ?_
  exact ⟨D, xs, m, rfl, hD, hfD, hs''.extBut _ _ hDC hDo, hr⟩
/-- x = [..]: the name is stored before the frame's names go -/
theorem HT.assignCompG {x : Str} {xp pos : Pos} {elt : Expr} {g : Comprehension} {gs : List Comprehension} {scope : Scope} {cpos : Pos} {K : WkT} {out : List V} {caps : List (Option Nat)} (i : Nat)
    (hfm : Framed K) (hi : HIg W n sc ρ g.iter K) (ok : CompOk scope sc caps) (him : ∀ i, some i ∈ caps → ∃ b, ρ[i]? = some b ∧ immOnly b = true)
    (h : CLg (ownOf scope) W n (relS scope sc) (rho0 ρ caps) [] (fun env D I => .compStart (.ListComp elt (g :: gs) scope cpos) 0 (.ref I) (.ref D) env) K (fun _ a => a = out))
    (hx : (vnames sc)[i]? = some x) (hfr : (sc.names.lookup x == some .free) = false)
    (hsw : ∀ env, env.scope = sc → swapsWith (.ListComp elt (g :: gs) scope cpos) (some (.Name x xp)) pos.line env = pure true)
    (hs : ∀ env x, foldedSetIterable g.iter env x = pure x) (ha : firstAsync (g :: gs) = false) :
    HT W n sc ρ (.Assign [.Name x xp] (.ListComp elt (g :: gs) scope cpos) pos) (fun o r => o = .next ∧ r = ρ.set i (.mutL out)) := by
  intro env A P f s Q E st hQ
  show wpAny W.M A (exec (.Assign [.Name x xp] (.ListComp elt (g :: gs) scope cpos) pos) env) Q E s
  rw [exec_Assign_Name_used _ _ _ _ (hsw env st.pre.eok.scope)]
  refine wpAny_bind (wpAny_standAt (wpAny_bind ?_))
  show wpAny W.M A (do let _ ← comprehension (.ListComp elt (g :: gs) scope cpos) scope env _ (newList []) (firstAsync (g :: gs)) (firstIter (g :: gs) env) (some (assign (.Name x xp) env))) _ _ s
  rw [ha, firstIter_eq]
  refine wpAny_bind (wpAny_mono (comp_run (T := accL) (use := some (assign (.Name x xp) env)) (Q := fun _ s' => Q .next s') mk_list rfl nil_list rfl hs hfm hi ok him h st.pre fun f' h' tk D o C mm hD hfD hDo hr hC hfC hns hDC hsy k => ?_) (fun _ s' hq => wpAny_pure (wpAny_pure hq)) fun _ _ e => e)
  obtain ⟨xs, m, rfl, hr⟩ := hr
  have hpC : ∀ b ∈ [C], P b = none := fun b hb => by
    rw [List.mem_singleton.mp hb]
    cases q : P C with
    | none => rfl
    | some o => obtain ⟨o', h9⟩ := st.pin.there q; rw [h9] at hC; cases hC
  have hpD : P D = none := by
    cases q : P D with
    | none => rfl
    | some o => obtain ⟨o', h9⟩ := st.pin.there q; rw [h9] at hD; cases hD
  have st' := st.guard k (wr := [C]) (fun b hb => by rw [List.mem_singleton.mp hb]; exact ⟨hC, hfC⟩) hpC
  obtain ⟨oC, hoC, hnC⟩ := NF.ns hns
  show wpAny W.M A (assign (.Name x xp) env (.ref D)) _ _ _
  refine wpAny_assign_Name (st'.store (s := { s with heap := h', toks := tk }) (b := .mutL out) hx ⟨D, xs, m, rfl, hDo, hr, hfD, by simp [Pw, hDC, hpD]⟩ hfr (how := trivial) fun h₂ tk₂ st₂ => ?_)
  have hC₂ : h₂.get? C = some oC := (st₂.pin C oC (by simp [Pw, hoC])).1 hnC.tab
  refine ⟨mm, hns.at' fun o e => by rw [hoC] at e; cases e; exact hC₂, fun h₃ hs₃ => ?_⟩
  have e₂ : Pw P [C] h' = Pw P [C] h₂ := by
    funext b; unfold Pw; split
    · rename_i hb; rw [List.mem_singleton.mp hb, hoC, hC₂]
    · rfl
  rw [e₂] at st₂
  have st₃ := (st₂.moved (h' := h₃) (fun b o hb e => hs₃.extBut b o (fun q => hb (List.mem_singleton.mpr q)) e) (fun b hb => by rw [List.mem_singleton.mp hb]; exact hfC) (fun b hb => by rw [List.mem_singleton.mp hb]; exact ⟨_, hC₂, hnC⟩) hpC st.capt).free (pw_base hpC) st.capt
  exact hQ .next .next _ f' h₃ tk₂ (k.gr st.pin) st₃ trivial ⟨rfl, rfl⟩
end Mine
end

/-! part M11 -/
section
open PySem PySem.W PyProof.Rows PySem.Calls
namespace Mine
variable {W : Wd} {n : Nat} {sc : Scope} {ρ : List Bd} {own : Str → Prop}

/-! tables of a frame's names -/
structure FF (sc : Scope) (nms gl : List Str) : Prop where
  nm : vnames sc = nms
  gl : ∀ x ∈ gl, isG sc x = true
  nf : ∀ x ∈ nms, (sc.names.lookup x == some .free) = false
/-- a frame that may read names from outside -/
structure FC (sc : Scope) (nms gl : List Str) : Prop where
  nm : vnames sc = nms
  gl : ∀ x ∈ gl, isG sc x = true
inductive Find : List Str → List Bd → Str → Bd → Prop
  | z {x : Str} {b : Bd} {l : List Str} {r : List Bd} : Find (x :: l) (b :: r) x b
  | s {x y : Str} {b c : Bd} {l : List Str} {r : List Bd} : Find l r x b → Find (y :: l) (c :: r) x b
inductive Put : List Str → List Bd → Str → Bd → List Bd → Nat → Prop
  | z {x : Str} {b b' : Bd} {l : List Str} {r : List Bd} : Put (x :: l) (b :: r) x b' (b' :: r) 0
  | s {x y : Str} {b' c : Bd} {l : List Str} {r r' : List Bd} {i : Nat} : Put l r x b' r' i → Put (y :: l) (c :: r) x b' (c :: r') (i + 1)
theorem Find.at {l : List Str} {r : List Bd} {x : Str} {b : Bd} (h : Find l r x b) : ∃ i : Nat, l[i]? = some x ∧ r[i]? = some b := by
  induction h with
  | z => exact ⟨0, rfl, rfl⟩
  | s _ ih => obtain ⟨i, h1, h2⟩ := ih; exact ⟨i + 1, by simpa using h1, by simpa using h2⟩
theorem Put.at {l : List Str} {r r' : List Bd} {x : Str} {b : Bd} {i : Nat} (h : Put l r x b r' i) : l[i]? = some x ∧ r' = r.set i b := by
  induction h with
  | z => exact ⟨rfl, rfl⟩
  | s _ ih => exact ⟨by simpa using ih.1, by simp [ih.2]⟩
theorem HE.v {nms gl : List Str} {x : Str} {pos : Pos} {v : V} (F : FC sc nms gl) (h : Find nms ρ x (.imm v)) : HE W n sc ρ (.Name x pos) (.val v) := by
  obtain ⟨i, h1, h2⟩ := h.at
  exact HE.var i (by rw [F.nm]; exact h1) h2
theorem FF.fc {nms gl : List Str} (F : FF sc nms gl) : FC sc nms gl := ⟨F.nm, F.gl⟩
variable {Post : Out → List Bd → Prop} {nms gl : List Str}
theorem nf_of (F : FF sc nms gl) {x : Str} {i : Nat} (h : nms[i]? = some x) : (sc.names.lookup x == some .free) = false := F.nf x (List.mem_of_getElem? h)
theorem HS.asg {x : Str} {xp pos : Pos} {e : Expr} {rest : List Stmt} {v : V} {ρ' : List Bd} {i : Nat} (F : FF sc nms gl) (h : HE W n sc ρ e (.val v)) (hp : Put nms ρ x (.imm v) ρ' i) (hn : HS W n sc ρ' rest Post)
    (hsw : ∀ env, env.scope = sc → swapsWith e (some (.Name x xp)) pos.line env = pure false := by intro _ _; rfl) : HS W n sc ρ (.Assign [.Name x xp] e pos :: rest) Post := by
  obtain ⟨h1, rfl⟩ := hp.at
  exact HS.assign i h hn (by rw [F.nm]; exact h1) (nf_of F h1) hsw
theorem HS.asgL {x : Str} {xp pos : Pos} {e : Expr} {rest : List Stmt} {v : List V} {ρ' : List Bd} {i : Nat} (F : FF sc nms gl) (h : HE W n sc ρ e (.freshL v)) (hp : Put nms ρ x (.mutL v) ρ' i) (hn : HS W n sc ρ' rest Post)
    (hsw : ∀ env, env.scope = sc → swapsWith e (some (.Name x xp)) pos.line env = pure false := by intro _ _; rfl) : HS W n sc ρ (.Assign [.Name x xp] e pos :: rest) Post := by
  obtain ⟨h1, rfl⟩ := hp.at
  exact HS.assignL i h hn (by rw [F.nm]; exact h1) (nf_of F h1) hsw
theorem HS.asgD {x : Str} {xp pos : Pos} {e : Expr} {rest : List Stmt} {v : List (Int × V)} {ρ' : List Bd} {i : Nat} (F : FF sc nms gl) (h : HE W n sc ρ e (.freshD v)) (hp : Put nms ρ x (.mutD v) ρ' i) (hn : HS W n sc ρ' rest Post)
    (hsw : ∀ env, env.scope = sc → swapsWith e (some (.Name x xp)) pos.line env = pure false := by intro _ _; rfl) : HS W n sc ρ (.Assign [.Name x xp] e pos :: rest) Post := by
  obtain ⟨h1, rfl⟩ := hp.at
  exact HS.assignD i h hn (by rw [F.nm]; exact h1) (nf_of F h1) hsw
theorem HS.augm {x : Str} {xp pos : Pos} {op : Operator} {e : Expr} {rest : List Stmt} {u v w : V} {ρ' : List Bd} {i : Nat} (F : FF sc nms gl) (hp : Put nms ρ x (.imm w) ρ' i) (hu : ρ[i]? = some (.imm u)) (h : HE W n sc ρ e (.val v)) (ho : Op W n (op2 (inplaceOp op)) [u, v] (.val w))
    (hn : HS W n sc ρ' rest Post) : HS W n sc ρ (.AugAssign (.Name x xp) op e pos :: rest) Post := by
  obtain ⟨h1, rfl⟩ := hp.at
  exact HS.aug i h ho hn hu (by rw [F.nm]; exact h1) (nf_of F h1)
/-! global names -/
theorem HE.gval {x : Str} {pos : Pos} {v : V} (F : FC sc nms gl) (hm : x ∈ gl) (hv : ∃ y, W.mg x = some y ∧ Rep W.base.get? v y) : HE W n sc ρ (.Name x pos) (.val v) := by
  obtain ⟨y, h1, h2⟩ := hv
  intro env A P f s Q E p hQ
  refine HX.glob (W := W) (n := n) (ρ := ρ) (F.gl x hm) h1 env A P f s Q E p fun z f' h' tk k e => ?_
  subst e; exact hQ _ _ _ _ k (h2.mono (p.base.le.trans k.le))
theorem HE.fn {x : Str} {np pos : Pos} {e : Expr} {rest : List Expr} {vs : List V} {r : RT} (F : FC sc nms gl) (hm : x ∈ gl) (ha : HA W n sc ρ pos (e :: rest) vs) (hf : CallOk W n x vs r)
    (he : ∀ env, starEach (e :: rest) env = (false, eval e env) :: starEach rest env := by intro _; rfl) : HE W n sc ρ (.Call (.Name x np) (e :: rest) [] pos) r := HE.callF (F.gl x hm) hf ha he
theorem HE.fn0 {x : Str} {np pos : Pos} {r : RT} (F : FC sc nms gl) (hm : x ∈ gl) (hf : CallOk W n x [] r) : HE W n sc ρ (.Call (.Name x np) [] [] pos) r := HE.callF0 (F.gl x hm) hf
theorem HE.bi {x : Str} {np pos : Pos} {id : String} {e : Expr} {rest : List Expr} {vs : List V} {r : RT} (F : FC sc nms gl) (hm : x ∈ gl) (hb : Bi W x (.builtin id)) (ha : HA W n sc ρ pos (e :: rest) vs)
    (hop : Op W n (fun xs => call (.builtin id) xs) vs r)
    (he : ∀ env, starEach (e :: rest) env = (false, eval e env) :: starEach rest env := by intro _; rfl) (hpl : ∀ env, (backTo pos (starEach rest env)).any (·.1) = false := by intro _; rfl) :
    HE W n sc ρ (.Call (.Name x np) (e :: rest) [] pos) r := HE.callB (F.gl x hm) hb ha hop he hpl
theorem HE.ty {x : Str} {np pos : Pos} {T : String} {e : Expr} {rest : List Expr} {vs : List V} {r : RT} (F : FC sc nms gl) (hm : x ∈ gl) (hb : Bi W x (.type T)) (ha : HA W n sc ρ pos (e :: rest) vs)
    (hop : Op W n (fun xs => call (.type T) xs) vs r)
    (he : ∀ env, starEach (e :: rest) env = (false, eval e env) :: starEach rest env := by intro _; rfl) (hpl : ∀ env, (backTo pos (starEach rest env)).any (·.1) = false := by intro _; rfl) :
    HE W n sc ρ (.Call (.Name x np) (e :: rest) [] pos) r := HE.callT (F.gl x hm) hb ha hop he hpl
theorem CallOk.mono {m : Nat} {x : Str} {vs : List V} {r : RT} (h : CallOk W n x vs r) (hm : n ≤ m) : CallOk W m x vs r := by
  obtain ⟨a, o, fd, h1, h2, h3, hop⟩ := h
  exact ⟨a, o, fd, h1, h2, h3, fun A f s xs Q E hr => hop A f s xs Q E (hr.mono hm)⟩
theorem HE.toV {e : Expr} {xs : List V} (h : HE W n sc ρ e (.freshL xs)) : HE W n sc ρ e (.val (.list xs)) := h.freezeL
theorem Op.toV {t : List Value → Sem Value} {vs xs : List V} (h : Op W n t vs (.freshL xs)) : Op W n t vs (.val (.list xs)) := h.freezeL
/-! unpacking -/
theorem HI.v {e : Expr} {v : V} {vs : List V} (h : HE W n sc ρ e (.val v)) (hi : OpI W n v vs) : HI W n sc ρ e vs := HI.of h hi
end Mine
end

/-! part M12 -/
section
open PySem PySem.W PyProof.Rows PySem.Calls
namespace Mine
variable {W : Wd} {n : Nat} {sc : Scope} {ρ : List Bd} {own : Str → Prop} {nms gl : List Str} {Post : Out → List Bd → Prop}

/-! one list alone is being changed -/
noncomputable def isL : Bd → Bool
  | .mutL _ => true
  | _ => false
noncomputable def isD : Bd → Bool
  | .mutD _ => true
  | _ => false
noncomputable def noL : List Bd → Bool
  | [] => true
  | b :: r => !isL b && noL r
noncomputable def oneL : List Bd → Nat → Bool
  | [], _ => true
  | _ :: r, 0 => noL r
  | b :: r, i + 1 => !isL b && oneL r i
noncomputable def noD : List Bd → Bool
  | [] => true
  | b :: r => !isD b && noD r
noncomputable def oneD : List Bd → Nat → Bool
  | [], _ => true
  | _ :: r, 0 => noD r
  | b :: r, i + 1 => !isD b && oneD r i
theorem noL_at : ∀ {r : List Bd}, noL r = true → ∀ (j : Nat) (ys : List V), r[j]? ≠ some (.mutL ys)
  | [], _, j, ys => by simp
  | b :: r, h, 0, ys => by
    simp only [noL, Bool.and_eq_true] at h
    intro e; simp at e; subst e; simp [isL] at h
  | b :: r, h, j + 1, ys => by
    simp only [noL, Bool.and_eq_true] at h
    simpa using noL_at h.2 j ys
theorem oneL_at : ∀ {r : List Bd} {i : Nat}, oneL r i = true → ∀ (j : Nat) (ys : List V), j ≠ i → r[j]? ≠ some (.mutL ys)
  | [], _, _, j, ys, _ => by simp
  | b :: r, 0, h, 0, ys, hj => absurd rfl hj
  | b :: r, 0, h, j + 1, ys, hj => by simpa using noL_at (show noL r = true from h) j ys
  | b :: r, i + 1, h, 0, ys, hj => by
    simp only [oneL, Bool.and_eq_true] at h
    intro e; simp at e; subst e; simp [isL] at h
  | b :: r, i + 1, h, j + 1, ys, hj => by
    simp only [oneL, Bool.and_eq_true] at h
    simpa using oneL_at h.2 j ys (by omega)
theorem noD_at : ∀ {r : List Bd}, noD r = true → ∀ (j : Nat) (ys : List (Int × V)), r[j]? ≠ some (.mutD ys)
  | [], _, j, ys => by simp
  | b :: r, h, 0, ys => by
    simp only [noD, Bool.and_eq_true] at h
    intro e; simp at e; subst e; simp [isD] at h
  | b :: r, h, j + 1, ys => by
    simp only [noD, Bool.and_eq_true] at h
    simpa using noD_at h.2 j ys
theorem oneD_at : ∀ {r : List Bd} {i : Nat}, oneD r i = true → ∀ (j : Nat) (ys : List (Int × V)), j ≠ i → r[j]? ≠ some (.mutD ys)
  | [], _, _, j, ys, _ => by simp
  | b :: r, 0, h, 0, ys, hj => absurd rfl hj
  | b :: r, 0, h, j + 1, ys, hj => by simpa using noD_at (show noD r = true from h) j ys
  | b :: r, i + 1, h, 0, ys, hj => by
    simp only [oneD, Bool.and_eq_true] at h
    intro e; simp at e; subst e; simp [isD] at h
  | b :: r, i + 1, h, j + 1, ys, hj => by
    simp only [oneD, Bool.and_eq_true] at h
    simpa using oneD_at h.2 j ys (by omega)
/-- borrowed for one expression -/
theorem HE.bwL {x : Str} {e : Expr} {xs : List V} {v : V} {ρ' : List Bd} {i : Nat} (hp : Put nms ρ x (.imm (.list xs)) ρ' i) (h : HE W n sc ρ' e (.val v)) (hv : ρ[i]? = some (.mutL xs) := by rfl) (ho : oneL ρ i = true := by rfl) (hpl : v.plain = true := by rfl) : HE W n sc ρ e (.val v) := by
  obtain ⟨_, rfl⟩ := hp.at
  exact HE.borrowL i h hv (oneL_at ho) hpl
theorem HE.bwD {x : Str} {e : Expr} {xs : List (Int × V)} {v : V} {ρ' : List Bd} {i : Nat} (hp : Put nms ρ x (.imm (.dict xs)) ρ' i) (h : HE W n sc ρ' e (.val v)) (hv : ρ[i]? = some (.mutD xs) := by rfl) (ho : oneD ρ i = true := by rfl) (hpl : v.plain = true := by rfl) : HE W n sc ρ e (.val v) := by
  obtain ⟨_, rfl⟩ := hp.at
  exact HE.borrowD i h hv (oneD_at ho) hpl
theorem HS.fzL (x : Str) {ss : List Stmt} {xs : List V} {ρ' : List Bd} {i : Nat} (hp : Put nms ρ x (.imm (.list xs)) ρ' i) (h : HS W n sc ρ' ss Post) (hv : ρ[i]? = some (.mutL xs) := by rfl) (ho : oneL ρ i = true := by rfl) : HS W n sc ρ ss Post := by
  obtain ⟨_, rfl⟩ := hp.at
  exact HS.freezeL i hv h (oneL_at ho)
theorem HS.fzD (x : Str) {ss : List Stmt} {xs : List (Int × V)} {ρ' : List Bd} {i : Nat} (hp : Put nms ρ x (.imm (.dict xs)) ρ' i) (h : HS W n sc ρ' ss Post) (hv : ρ[i]? = some (.mutD xs) := by rfl) (ho : oneD ρ i = true := by rfl) : HS W n sc ρ ss Post := by
  obtain ⟨_, rfl⟩ := hp.at
  exact HS.freezeD i hv h (oneD_at ho)

/-! changing a list -/
theorem obj_ld {h : Heap} {a : Addr} {vs : List Value} {m : Nat} {es : List DictEntry} {k : Nat} (h1 : h.get? a = some (lobj vs m)) (h2 : h.get? a = some (dobj es k)) : False := by
  rw [h1] at h2; simp [lobj, dobj] at h2
theorem St.chL {env : Env} {A : Around} {P f : FH} {h h' : Heap} {i : Nat} {xs ys : List V} {a : Addr} {vs vs' : List Value} {m m' : Nat} (st : St own W n sc ρ env A P f h) (hv : ρ[i]? = some (.mutL xs)) (ho : oneL ρ i = true)
    {x : Str} (hx : (vnames env.scope)[i]? = some x) (hl : Look env h x (some (.ref a))) (ha : h.get? a = some (lobj vs m)) (hf : f a = none) (hP : P a = none) (hs : Heap.SameBut a h h') (ha' : h'.get? a = some (lobj vs' m')) (hr : Reps f ys vs') :
    St own W n sc (ρ.set i (.mutL ys)) env A P f h' := by
  have hcell : ∀ c o, h.IsCell c o → c ≠ a := fun c o hc e => by subst e; exact cell_not_list hc _ _ ha
  have hL : env.locals ≠ a := by
    rintro rfl
    obtain ⟨mm, hn⟩ := st.ns
    exact ns_not_list hn _ _ ha
  have lk : ∀ y o, Look env h y o → Look env h' y o := fun y o hl => by
    rcases hl with ⟨k, mm, hn, hm⟩ | ⟨k, c, hc, hv⟩
    · exact .inl ⟨k, mm, hn.sameBut hs hL, hm⟩
    · exact .inr ⟨k, c, hc, hv.sameBut hs (hcell c _ hv)⟩
  refine { pre := ⟨st.pre.eok, st.pre.room, st.pre.base.same ⟨_, ha, .l⟩ hs, fun b o e => (hs.2 b (by rintro rfl; rw [hf] at e; cases e)).trans (st.pre.sub b o e), ?_⟩, pin := ?_, ns := ?_, locP := st.locP, locF := st.locF, cell := ?_, apart := st.apart, len := by rw [List.length_set]; exact st.len, capt := st.capt }
  · intro j b e
    by_cases hj : j = i
    · subst hj
      have hlt : j < ρ.length := (List.getElem?_eq_some_iff.mp hv).1
      rw [List.getElem?_set_self hlt] at e
      cases e
      exact ⟨x, _, hx, lk _ _ hl, a, vs', m', rfl, ha', hr, hf, hP⟩
    · rw [List.getElem?_set_ne (Ne.symm hj)] at e
      obtain ⟨y, o, h1, h2, h3⟩ := st.pre.vars j b e
      refine ⟨y, o, h1, lk _ _ h2, ?_⟩
      cases b with
      | unb => exact h3
      | imm v => exact h3
      | mutL zs => exact absurd e (oneL_at ho j zs hj)
      | mutD zs =>
        obtain ⟨b, es, m, q1, q2, q3, q4⟩ := h3
        exact ⟨b, es, m, q1, q2, (hs.2 b (by rintro rfl; exact obj_ld ha q3)).trans q3, q4⟩
  · exact st.pin.same hs hP
  · obtain ⟨mm, hn⟩ := st.ns; exact ⟨mm, hn.sameBut hs hL⟩
  · intro y c h0 h1 h2
    obtain ⟨b1, b2, o, b3⟩ := st.cell y c h0 h1 h2
    exact ⟨b1, b2, o, b3.sameBut hs (hcell c o b3)⟩
theorem HS.setIdx {x : Str} {xp spos pos : Pos} {ie e : Expr} {rest : List Stmt} {xs : List V} {k : Int} {v : V} {ρ' : List Bd} {i : Nat} (F : FF sc nms gl) (he : HE W n sc ρ e (.val v)) (hi : HE W n sc ρ ie (.val (.int k)))
    (hp : Put nms ρ x (.mutL (xs.set k.toNat v)) ρ' i) (h0 : 0 ≤ k) (h1 : k < xs.length) (hsz : xs.length ≤ 1000000) (hn : HS W n sc ρ' rest Post) (hv : ρ[i]? = some (.mutL xs) := by rfl) (ho : oneL ρ i = true := by rfl)
    (hsw : ∀ env, swapsWith e (some (.Subscript (.Name x xp) ie spos)) pos.line env = pure false := by intro _; rfl) :
    HS W n sc ρ (.Assign [.Subscript (.Name x xp) ie spos] e pos :: rest) Post := by
  obtain ⟨hx, rfl⟩ := hp.at
  refine HS.step (ρ' := ρ.set i (.mutL (xs.set k.toNat v))) ?_ hn
  intro env A P f s Q E st hQ
  refine wpAny_Assign_Subscript (hs := hsw env) ?_
  refine he env A P f s _ E st.pre fun y f₁ h₁ tk₁ k₁ r₁ => ?_
  have st₁ := st.step k₁
  obtain ⟨x', o, e1, hl, a, vs, m, rfl, ha, hr, hf, hP⟩ := st₁.pre.vars i _ hv
  have hxx : x' = x := by
    rw [st.pre.eok.scope, F.nm, hx] at e1; exact (Option.some.inj e1).symm
  subst hxx
  have hm : x' ∈ vnames sc := by rw [F.nm]; exact List.mem_of_getElem? hx
  refine wpAny_Name (look_load st₁.pre.eok hm hl ?_) (st₁.pre.eok.plain x' hm).1
  refine hi env A P f₁ { s with heap := h₁, toks := tk₁ } _ E st₁.pre fun z f₂ h₂ tk₂ k₂ r₂ => ?_
  obtain ⟨t, rfl⟩ := Rep.int_inv r₂
  have st₂ := st₁.step k₂
  have ha₂ := k₂.ext _ _ ha notTab_l
  have hf₂ := k₂.none' hf ha
  have hr₂ := hr.mono k₂.le
  have hlen := hr.length
  have e63 : (2:Int)^63 = 9223372036854775808 := by decide
  refine ki_setAt (items := vs.toArray) (n := m) (s := { s with heap := h₂, toks := tk₂ }) ha₂ h0 (by omega) (by rw [List.size_toArray]; omega) ?_
  have e := IsL.update (h := h₂) (l := a) (items := vs.toArray) (n := m) ha₂ (fun xs => xs.setIfInBounds k.toNat y)
  obtain ⟨m', hg⟩ : ∃ m', (h₂.update a (Obj.mapSeq fun xs => xs.setIfInBounds k.toNat y)).get? a = some (lobj (vs.set k.toNat y) m') := ⟨_, by rw [e]; simp [lobj]; rfl⟩
  refine hQ .next .next _ f₂ _ tk₂ ((k₁.trans k₂).gr st.pin) (st₂.chL hv ho (x := x') (by rw [st.pre.eok.scope, F.nm]; exact hx) (hl.ext k₂.ext) ha₂ hf₂ hP (Heap.SameBut.update ..) hg (hr₂.set (Rep.mono k₂.le r₁))) trivial ⟨rfl, rfl⟩
theorem not_interactive {env : Env} (h : EnvOk env sc) : interactive env = false := by
  unfold interactive; rw [h.scope, h.kind]; rfl
/-- x.append(e) -/
theorem HS.app {x : Str} {xp apos cpos pos : Pos} {e : Expr} {rest : List Stmt} {xs : List V} {v : V} {ρ' : List Bd} {i : Nat} (F : FF sc nms gl) (he : HE W n sc ρ e (.val v))
    (hp : Put nms ρ x (.mutL (xs ++ [v])) ρ' i) (hsz : xs.length ≤ 1000000) (hn : HS W n sc ρ' rest Post) (hv : ρ[i]? = some (.mutL xs) := by rfl) (ho : oneL ρ i = true := by rfl)
    (hst : ∀ env, starEach [e] env = (false, eval e env) :: starEach [] env := by intro _; rfl)
    (hline : (apos.endLine == cpos.line) = true := by rfl) :
    HS W n sc ρ (.Expr (.Call (.Attribute (.Name x xp) "append" apos) [e] [] cpos) pos :: rest) Post := by
  obtain ⟨hx, rfl⟩ := hp.at
  refine HS.step (ρ' := ρ.set i (.mutL (xs ++ [v]))) ?_ hn
  intro env A P f s Q E st hQ
  refine wpAny_Expr_any (hi := not_interactive st.pre.eok) (hs := by rfl) ?_
  refine wpAny_Call_method (by rfl) (by rw [hst env]; rfl) hline PySem.F.plainAttrs_list PySem.slot_list_append PySem.type_list_append ?_
  obtain ⟨x', o, e1, hl, a, vs, m, rfl, ha, hr, hf, hP⟩ := st.pre.vars i _ hv
  have hxx : x' = x := by
    rw [st.pre.eok.scope, F.nm, hx] at e1; exact (Option.some.inj e1).symm
  subst hxx
  have hm : x' ∈ vnames sc := by rw [F.nm]; exact List.mem_of_getElem? hx
  refine wpAny_Name (look_load st.pre.eok hm hl ?_) (st.pre.eok.plain x' hm).1
  refine ⟨⟨_, ha, rfl⟩, fun b e => by cases e; exact ⟨_, ha, rfl⟩, ?_⟩
  rw [hst env]
  refine callWith_builtin (by rfl) (evalArgs_plain (Calls.spliced_cons ?_))
  refine he env A P f s _ E st.pre fun y f₁ h₁ tk₁ k₁ r₁ => Calls.spliced_nil ?_
  have st₁ := st.step k₁
  have ha₁ := k₁.ext _ _ ha notTab_l
  have hf₁ := k₁.none' hf ha
  refine append_exact (s := { s with heap := h₁, toks := tk₁ }) ha₁ (by rw [hr.length]; exact hsz) fun h₂ m₂ hg hs₂ => ?_
  exact hQ .next .next _ f₁ h₂ tk₁ (k₁.gr st.pin) (st₁.chL hv ho (x := x') (by rw [st.pre.eok.scope, F.nm]; exact hx) (hl.ext k₁.ext) ha₁ hf₁ hP hs₂ hg ((hr.mono k₁.le).append (.one r₁))) trivial ⟨rfl, rfl⟩
/-- x.reverse() -/
theorem HS.rev {x : Str} {xp apos cpos pos : Pos} {rest : List Stmt} {xs : List V} {ρ' : List Bd} {i : Nat} (F : FF sc nms gl)
    (hp : Put nms ρ x (.mutL xs.reverse) ρ' i) (hsz : xs.length ≤ 1000000) (hn : HS W n sc ρ' rest Post) (hv : ρ[i]? = some (.mutL xs) := by rfl) (ho : oneL ρ i = true := by rfl)
    (hline : (apos.endLine == cpos.line) = true := by rfl) :
    HS W n sc ρ (.Expr (.Call (.Attribute (.Name x xp) "reverse" apos) [] [] cpos) pos :: rest) Post := by
  obtain ⟨hx, rfl⟩ := hp.at
  refine HS.step (ρ' := ρ.set i (.mutL xs.reverse)) ?_ hn
  intro env A P f s Q E st hQ
  refine wpAny_Expr_any (hi := not_interactive st.pre.eok) (hs := by rfl) ?_
  refine wpAny_Call_method (by rfl) (by rfl) hline PySem.F.plainAttrs_list PySem.F.slot_list_reverse PySem.F.type_list_reverse ?_
  obtain ⟨x', o, e1, hl, a, vs, m, rfl, ha, hr, hf, hP⟩ := st.pre.vars i _ hv
  have hxx : x' = x := by
    rw [st.pre.eok.scope, F.nm, hx] at e1; exact (Option.some.inj e1).symm
  subst hxx
  have hm : x' ∈ vnames sc := by rw [F.nm]; exact List.mem_of_getElem? hx
  refine wpAny_Name (look_load st.pre.eok hm hl ?_) (st.pre.eok.plain x' hm).1
  refine ⟨⟨_, ha, rfl⟩, fun b e => by cases e; exact ⟨_, ha, rfl⟩, ?_⟩
  refine PySem.P.reverse_list (items := vs.toArray) (n := m) ha ?_ (by rw [List.size_toArray, hr.length, sizeLine_eq]; omega)
  have e := IsL.update (h := s.heap) (l := a) (items := vs.toArray) (n := m) ha (fun xs => xs.reverse)
  obtain ⟨m', hg⟩ : ∃ m', (s.heap.update a (Obj.mapSeq fun xs => xs.reverse)).get? a = some (lobj vs.reverse m') := ⟨_, by rw [e]; simp [lobj]; rfl⟩
  exact hQ .next .next _ f _ s.toks (Gr.refl _ _) (st.chL hv ho (x := x') (by rw [st.pre.eok.scope, F.nm]; exact hx) hl ha hf hP (Heap.SameBut.update ..) hg hr.reverse) trivial ⟨rfl, rfl⟩
end Mine
end

/-! part M13 -/
section
open PySem PySem.W PyProof.Rows PySem.Calls
namespace Mine
variable {W : Wd} {n : Nat} {sc : Scope} {ρ : List Bd} {own : Str → Prop} {nms gl : List Str} {Post : Out → List Bd → Prop}

/-! unpacking -/
inductive PutAll : List Str → List Bd → List Expr → List V → List Bd → Prop
  | nil {l : List Str} {ρ : List Bd} : PutAll l ρ [] [] ρ
  | cons {l : List Str} {x : Str} {p : Pos} {v : V} {es : List Expr} {vs : List V} {ρ ρ₁ ρ₂ : List Bd} {i : Nat} : Put l ρ x (.imm v) ρ₁ i → PutAll l ρ₁ es vs ρ₂ → PutAll l ρ (.Name x p :: es) (v :: vs) ρ₂
theorem PutAll.each {es : List Expr} {vs : List V} {ρ ρ' : List Bd} (h : PutAll nms ρ es vs ρ') (env : Env) : (assignEach es env).length = vs.length ∧ (assignEach es env).findIdx? (·.1) = none := by
  induction h with
  | nil => exact ⟨rfl, rfl⟩
  | cons _ _ ih => exact ⟨by show (assignEach _ env).length + 1 = _; rw [ih.1]; rfl, by show List.findIdx? _ ((false, _) :: assignEach _ env) = none; rw [List.findIdx?_cons]; simp [ih.2]⟩
theorem PutAll.store {es : List Expr} {vs : List V} {ρ ρ' : List Bd} (F : FF sc nms gl) (h : PutAll nms ρ es vs ρ') : ∀ {env : Env} {A : Around} {P f : FH} {s : Shared} {xs : List Value} {Q : Unit → Shared → Prop} {E : Value → Shared → Prop},
    St (fun _ => True) W n sc ρ env A P f s.heap → Reps f vs xs → (∀ h' tk, St (fun _ => True) W n sc ρ' env A P f h' → Q () { s with heap := h', toks := tk }) →
    wpAny W.M A (assignInOrder ((assignEach es env).map (·.2)) xs) Q E s := by
  induction h with
  | nil =>
    intro env A P f s xs Q E st hr hQ
    cases hr
    exact wpAny_pure (hQ s.heap s.toks st)
  | cons hp _ ih =>
    intro env A P f s xs Q E st hr hQ
    cases hr with
    | cons h1 h2 =>
      obtain ⟨hx, rfl⟩ := hp.at
      show wpAny W.M A (holding _ (assign (.Name _ _) env _) >>= fun _ => assignInOrder _ _) Q E s
      refine wpAny_bind (wpAny_holding (wpAny_assign_Name (st.store (by rw [F.nm]; exact hx) (BdOk.imm h1) (nf_of F hx) (how := trivial) fun h' tk st' => ?_)))
      exact ih (s := { s with heap := h', toks := tk }) st' h2 fun h'' tk' st'' => hQ h'' tk' st''
theorem St.ext {env : Env} {A : Around} {P f : FH} {h h' : Heap} (st : St own W n sc ρ env A P f h) (e : ∀ a o, h.get? a = some o → h'.get? a = some o) : St own W n sc ρ env A P f h' := st.step (Ok.heap st.pre.sub e)
theorem extBut_new {h h' : Heap} (e : Heap.ExtBut h.objs.size h h') : ∀ a o, h.get? a = some o → h'.get? a = some o := fun a o ho => e a o (Nat.ne_of_lt (Heap.lt_size ho)) ho
theorem HS.unT {es : List Expr} {k : Nat} {tp pos : Pos} {e : Expr} {rest : List Stmt} {vs : List V} {ρ' : List Bd} (F : FF sc nms gl) (he : HE W n sc ρ e (.val (.tuple vs))) (hp : PutAll nms ρ es vs ρ') (hn : HS W n sc ρ' rest Post)
    (hs : ∀ env, swapsWithSole [.Tuple es k tp] e pos.line env = pure false := by intro _; rfl)
    (hw : ∀ env, env.scope = sc → swappedStores [.Tuple es k tp] e env = pure none := by intro _ _; rfl) : HS W n sc ρ (.Assign [.Tuple es k tp] e pos :: rest) Post := by
  refine HS.step (ρ' := ρ') ?_ hn
  intro env A P f s Q E st hQ
  refine Assign_Tuple (he env A P f s _ E st.pre fun x f₁ h₁ tk₁ k₁ r₁ => ?_) (hs env) (hw env st.pre.eok.scope)
  obtain ⟨a, xs, m, rfl, ha, hr⟩ := Rep.tuple_inv r₁
  have st₁ := st.step k₁
  have hl := hp.each env
  refine wpAny_assign_Tuple (s := { s with heap := h₁, toks := tk₁ }) st.pre.room.handled (isTuple (st₁.pre.sub _ _ ha)) (by rw [hl.1, hr.arr]) hl.2 fun h₂ e₂ => ?_
  have st₂ := st₁.ext (extBut_new e₂)
  refine hp.store F (s := { s with heap := h₂, toks := tk₁ }) st₂ (by simpa using hr) fun h₃ tk₃ st₃ => ?_
  exact hQ .next .next _ f₁ h₃ tk₃ (k₁.gr st.pin) st₃ trivial ⟨rfl, rfl⟩
theorem draw_walk {A : Around} {I : Addr} {fp wr : List Addr} {N : Nat} {P : Nat → Value → Prop} {S : Nat → Heap → Prop} (X : Walks W.prog W.w A I fp wr N P S) : ∀ (k i : Nat) (s : Shared) (Q : List Value → Shared → Prop) (E : Value → Shared → Prop), S i s.heap → i + k ≤ N →
    (∀ xs h' tk, xs.length = k → (∀ (j : Nat) v, xs[j]? = some v → P (i + j) v) → S (i + k) h' → (∀ b o, b ∉ wr → s.heap.get? b = some o → h'.get? b = some o) → Q xs { s with heap := h', toks := tk }) → wpAny W.M A (draw (.ref I) k) Q E s
  | 0, i, s, Q, E, hS, _, hQ => wpAny_pure (hQ [] s.heap s.toks rfl (fun j v h => by simp at h) hS fun b o _ e => e)
  | k + 1, i, s, Q, E, hS, hle, hQ => by
    show wpAny _ _ (pyNext (.ref I) >>= _) Q E s
    refine wpAny_bind (X.item i s _ _ (by omega) hS fun v h₁ tk₁ hv hS₁ hk₁ => ?_)
    refine wpAny_bind (wpAny_holding (draw_walk X k (i + 1) { s with heap := h₁, toks := tk₁ } _ E hS₁ (by omega) fun xs h₂ tk₂ hl hx hS₂ hk₂ => wpAny_pure ?_))
    refine hQ (v :: xs) h₂ tk₂ (by simp [hl]) (fun j u hj => ?_) (by rw [show i + (k + 1) = i + 1 + k by omega]; exact hS₂) fun b o hb e => hk₂ b o hb (hk₁ b o hb e)
    cases j with
    | zero => simp at hj; subst hj; exact hv
    | succ j => rw [show i + (j + 1) = i + 1 + j by omega]; exact hx j u (by simpa using hj)
theorem unpackItems_list {A : Around} {f : FH} {s : Shared} {a : Addr} {vs : List V} {xs : List Value} {m : Nat} {Q : List Value → Shared → Prop} {E : Value → Shared → Prop} (hA : A.handled = none) (ha : s.heap.get? a = some (lobj xs m)) 
    (hQ : ∀ h' tk, (∀ b o, s.heap.get? b = some o → h'.get? b = some o) → Q xs { s with heap := h', toks := tk }) : wpAny W.M A (unpackItems (.ref a) xs.length none) Q E s := by
  obtain ⟨hne, hit, hil⟩ := listIter_facts ha
  have X := Walks.list (prog := W.prog) (w := W.w) hA s.heap.objs.size a hne xs.toArray
  have hsz : xs.toArray.size = xs.length := List.size_toArray
  unfold unpackItems
  refine wpAny_bind ?_
  unfold notIterableAtAll
  refine wpAny_bind (wpAny_specialOf (T := "list") ⟨_, ha, rfl⟩ slot_list_iter.lookup ?_)
  refine wpAny_pure ?_
  simp only [Bool.false_eq_true, if_false]
  refine wpAny_bind (wpAny_holding (wpAny_pyIter_list (isList ha) ?_))
  have old : ∀ (h' : Heap), (∀ b o, b ∉ [s.heap.objs.size] → (s.heap.push { cls := .type "list_iterator", data := .fields #[.ref a, .int 0 0] }).get? b = some o → h'.get? b = some o) → ∀ b o, s.heap.get? b = some o → h'.get? b = some o := fun h' hk b o e =>
    hk b o (fun hm => by rw [List.mem_singleton.mp hm] at e; exact Nat.lt_irrefl _ (Heap.lt_size e)) (Heap.get?_push_of_some _ e)
  refine wpAny_bind (wpAny_holding (draw_walk X xs.length 0 _ _ _ ⟨hit, hil⟩ (by rw [hsz]; omega) fun ys h₂ tk₂ hl hx hS₂ hk₂ => ?_))
  have hys : ys = xs := by
    apply List.ext_getElem? 
    intro i
    by_cases hi : i < xs.length
    · have h1 : i < ys.length := by omega
      have := hx i ys[i] (List.getElem?_eq_getElem h1)
      rw [List.getElem?_eq_getElem h1]
      have h3 : xs[i]? = some ys[i] := by simpa using this
      rw [h3]
    · rw [List.getElem?_eq_none (by omega), List.getElem?_eq_none (by omega)]
  subst hys
  rw [if_neg (by simp)]
  refine wpAny_bind (wpAny_holding (X.done _ _ _ (by rw [hsz]; simpa using hS₂) fun h₃ tk₃ hk₃ => ?_))
  simp only [Option.isSome_none, Bool.false_eq_true, if_false]
  exact wpAny_pure (hQ h₃ tk₃ (old h₃ fun b o hb e => hk₃ b o hb (hk₂ b o hb e)))
theorem HS.unL {es : List Expr} {k : Nat} {tp pos : Pos} {e : Expr} {rest : List Stmt} {vs : List V} {ρ' : List Bd} (F : FF sc nms gl) (he : HE W n sc ρ e (.val (.list vs))) (hp : PutAll nms ρ es vs ρ') (hn : HS W n sc ρ' rest Post)
    (hs : ∀ env, swapsWithSole [.Tuple es k tp] e pos.line env = pure false := by intro _; rfl)
    (hw : ∀ env, env.scope = sc → swappedStores [.Tuple es k tp] e env = pure none := by intro _ _; rfl) : HS W n sc ρ (.Assign [.Tuple es k tp] e pos :: rest) Post := by
  refine HS.step (ρ' := ρ') ?_ hn
  intro env A P f s Q E st hQ
  refine Assign_Tuple (he env A P f s _ E st.pre fun x f₁ h₁ tk₁ k₁ r₁ => ?_) (hs env) (hw env st.pre.eok.scope)
  obtain ⟨a, xs, m, rfl, ha, hr⟩ := Rep.list_inv r₁
  have st₁ := st.step k₁
  have hl := hp.each env
  rw [PySem.arm_assign_Tuple]
  refine wpAny_bind (wpAny_standAt ?_)
  unfold unpack
  rw [hl.1, hl.2, ← hr.length]
  refine wpAny_bind (wpAny_holding (unpackItems_list (vs := vs) (f := f₁) (s := { s with heap := h₁, toks := tk₁ }) st.pre.room.handled (st₁.pre.sub _ _ ha) fun h₂ tk₂ e₂ => ?_))
  have st₂ := st₁.ext e₂
  refine hp.store F (s := { s with heap := h₂, toks := tk₂ }) st₂ hr fun h₃ tk₃ st₃ => ?_
  exact hQ .next .next _ f₁ h₃ tk₃ (k₁.gr st.pin) st₃ trivial ⟨rfl, rfl⟩
/-- a, b = b, a and its kind: the stores go from behind -/
theorem HS.swap {x y : Str} {px py : Pos} {k : Nat} {tp pos : Pos} {e : Expr} {rest : List Stmt} {v w : V} {ρ₁ ρ₂ : List Bd} {i j : Nat} (F : FF sc nms gl) (he : HE W n sc ρ e (.val (.tuple [v, w]))) (hp : Put nms ρ y (.imm w) ρ₁ i) (hp' : Put nms ρ₁ x (.imm v) ρ₂ j) (hn : HS W n sc ρ₂ rest Post)
    (hs : ∀ env, swapsWithSole [.Tuple [.Name x px, .Name y py] k tp] e pos.line env = pure false)
    (hw : ∀ env, env.scope = sc → swappedStores [.Tuple [.Name x px, .Name y py] k tp] e env = pure (some [x, y])) : HS W n sc ρ (.Assign [.Tuple [.Name x px, .Name y py] k tp] e pos :: rest) Post := by
  obtain ⟨hy, rfl⟩ := hp.at
  obtain ⟨hx, rfl⟩ := hp'.at
  refine HS.step (ρ' := (ρ.set i (.imm w)).set j (.imm v)) ?_ hn
  intro env A P f s Q E st hQ
  refine Assign_Tuple_swapped (he env A P f s _ E st.pre fun z f₁ h₁ tk₁ k₁ r₁ => ?_) (hs env) (hw env st.pre.eok.scope)
  obtain ⟨a, xs, m, rfl, ha, hr⟩ := Rep.tuple_inv r₁
  obtain ⟨z₁, z₂, rfl, hz₁, hz₂⟩ := hr.two_inv
  have st₁ := st.step k₁
  refine wpAny_unpackItems_tuple (items := #[z₁, z₂]) (s := { s with heap := h₁, toks := tk₁ }) st.pre.room.handled (isTuple (st₁.pre.sub _ _ ha)) fun h₂ e₂ => ?_
  have st₂ := st₁.ext (extBut_new e₂)
  show wpAny W.M A (do holding [z₁] (bindName env y z₂); holding [] (bindName env x z₁); pure ()) _ _ _
  refine wpAny_bind (wpAny_holding (wpAny_bindName (st₂.store (s := { s with heap := h₂, toks := tk₁ }) (by rw [F.nm]; exact hy) (BdOk.imm hz₂) (nf_of F hy) (how := trivial) fun h₃ tk₃ st₃ => ?_)))
  refine wpAny_bind (wpAny_holding (wpAny_bindName (st₃.store (s := { s with heap := h₃, toks := tk₃ }) (by rw [F.nm]; exact hx) (BdOk.imm hz₁) (nf_of F hx) (how := trivial) fun h₄ tk₄ st₄ => ?_)))
  exact wpAny_pure (hQ .next .next _ f₁ h₄ tk₄ (k₁.gr st.pin) st₄ trivial ⟨rfl, rfl⟩)
/-! rules whose asks come last, for the tactic -/
theorem HE.sub' {value slice : Expr} {pos : Pos} {v i : V} {r : RT} (h : HE W n sc ρ value (.val v)) (h' : HE W n sc ρ slice (.val i)) (hv : hasItems v = true) (ho : Op W n (op2 getItem) [v, i] r)
    (hsl : ∀ o i, ∃ ops, subscripted slice false o i = operate ops (getItem o i) := by exact fun _ _ => ⟨_, rfl⟩) : HE W n sc ρ (.Subscript value slice pos) r := HE.sub h h' ho hv hsl
theorem HE.tuple' {es : List Expr} {k : Nat} {pos : Pos} {vs : List V} (h : HA W n sc ρ pos es vs) (hsz : vs.length ≤ 1000) : HE W n sc ρ (.Tuple es k pos) (.val (.tuple vs)) := HE.tuple h hsz
theorem HE.listF' {es : List Expr} {pos : Pos} {vs : List V} (h : HA W n sc ρ pos es vs) (hsz : vs.length ≤ 1000) : HE W n sc ρ (.List es pos) (.freshL vs) := HE.listF h hsz
theorem HE.list' {es : List Expr} {pos : Pos} {vs : List V} (h : HA W n sc ρ pos es vs) (hsz : vs.length ≤ 1000) : HE W n sc ρ (.List es pos) (.val (.list vs)) := HE.list h hsz
theorem HE.iteV {t a b : Expr} {pos : Pos} {c : Bool} {v w u : V} (ht : HB W n sc ρ t c) (ha : c = true → HE W n sc ρ a (.val v)) (hb : c = false → HE W n sc ρ b (.val w)) (hu : (if c then v else w) = u) :
    HE W n sc ρ (.IfExp t a b pos) (.val u) := hu ▸ HE.ite ht ha hb
theorem HE.orV {a b : Expr} {pos : Pos} {c : Bool} {v w u : V} (ha : HE W n sc ρ a (.val v)) (ht : OpB W n (op1 truthy) [v] c) (hb : c = false → HE W n sc ρ b (.val w)) (hu : (if c then v else w) = u) :
    HE W n sc ρ (.BoolOp .Or [a, b] pos) (.val u) := hu ▸ HE.or ha ht hb
noncomputable def isNoneV : V → Bool
  | .none => true
  | _ => false
theorem Op.isNoneV {v : V} : Op W n (op2 (compareOp .Is)) [v, .none] (.val (.bool (isNoneV v))) := by cases v <;> exact Op.isNone
theorem HB.cmpN {l : Expr} {pos p : Pos} {k : Nat} {a : V} (hl : HE W n sc ρ l (.val a)) : HB W n sc ρ (.Compare l [.Is] [.Constant .none k p] pos) (isNoneV a) :=
  HB.cmp hl HE.none Op.isNoneV
end Mine
end

/-! part M14 -/
section
open PySem PySem.W PyProof.Rows PySem.Calls
namespace Mine
variable {W : Wd} {n : Nat} {sc : Scope} {ρ : List Bd} {own : Str → Prop} {nms gl : List Str} {Post : Out → List Bd → Prop}

/-! types as values -/
theorem HE.tyN {x : Str} {pos : Pos} {T : String} (F : FC sc nms gl) (hm : x ∈ gl) (hb : Bi W x (.type T)) : HE W n sc ρ (.Name x pos) (.val (.ty T)) := by
  intro env A P f s Q E p hQ
  refine HX.boot (W := W) (n := n) (ρ := ρ) (F.gl x hm) hb env A P f s Q E p fun z f' h' tk k e => ?_
  subst e; exact hQ _ _ _ _ k (.ty T)
theorem Rep.ty_inv {f : FH} {T : String} {x : Value} (h : Rep f (.ty T) x) : x = .type T := by cases h; rfl
theorem OpC.isTup {xs : List V} : Op W n (fun as => call (.builtin "isinstance") as) [.tuple xs, .ty "tuple"] (.val (.bool true)) :=
  OpC.two fun A f s x y Q E hr hs hx hy hQ => by
    obtain ⟨l, vs, m, rfl, hl, hv⟩ := hx.tuple_inv
    obtain rfl := hy.ty_inv
    exact PySem.IsiPair.tuple_tuple (hs _ _ hl) rfl (hQ _ f s.heap s.toks (Ok.refl hs) (.bool _))
theorem OpC.isInt {i : Int} : Op W n (fun as => call (.builtin "isinstance") as) [.int i, .ty "int"] (.val (.bool true)) :=
  OpC.two fun A f s x y Q E hr hs hx hy hQ => by
    obtain ⟨t, rfl⟩ := hx.int_inv
    obtain rfl := hy.ty_inv
    exact PySem.IsiPair.int_int (hQ _ f s.heap s.toks (Ok.refl hs) (.bool _))
/-! dicts -/
noncomputable def dget (kvs : List (Int × V)) (k : Int) : Option V := (kvs.find? fun p => p.1 = k).map (·.2)
theorem RepKV.at {f : FH} {a : List (Int × V)} {b : List (Int × Value)} (x : RepKV f a b) (k : Int) : (dget a k = none ∧ valueAt b k = none) ∨ ∃ v y, dget a k = some v ∧ valueAt b k = some y ∧ Rep f v y := by
  induction x with
  | nil => exact .inl ⟨rfl, rfl⟩
  | cons r _ ih =>
    rename_i k' v y kvs xs _
    unfold dget valueAt at ih ⊢
    simp only [List.find?_cons]
    by_cases c : k' = k
    · simp only [c, decide_true]; exact .inr ⟨_, _, rfl, rfl, r⟩
    · simp only [c, decide_false]; exact ih
theorem OpC.dgetD {kvs : List (Int × V)} {k : Int} {v : V} : Op W n (fun as => call (.builtin "dict.get") as) [.dict kvs, .int k, v] (.val ((dget kvs k).getD v)) := by
  intro A f s xs Q E hr hb hs hv hQ
  obtain ⟨x, y, z, rfl, hx, hy, hz⟩ := hv.three_inv
  obtain ⟨d, es, m, rfl, hm, hd, hw, hn⟩ := hx.dict_inv
  obtain ⟨t, rfl⟩ := hy.int_inv
  have hL := hs _ _ hd
  obtain ⟨kv, h1, h2⟩ := hw.dictAt (W := W) hL hn
  have hD := h2.dictOf
  refine call_meetsIn PySem.F.slot_dict_get hD.typeIs PySem.F.entry_dict_get (PySem.F.args_dict_get_3 _ _ _) (meets_dict_get_default _ d (intKind_is _ _ k t) hm z) ⟨_, hD.mapOf, ?_⟩
  refine hQ _ f s.heap _ (Ok.refl hs) ?_
  show Rep f _ _
  rcases h1.at k with ⟨h3, h4⟩ | ⟨v', y', h3, h4, h5⟩
  · rw [h3, h4]; exact hz
  · rw [h3, h4]; exact h5
theorem Op.dgetI {kvs : List (Int × V)} {k : Int} {v : V} (h : dget kvs k = some v) : Op W n (op2 getItem) [.dict kvs, .int k] (.val v) :=
  Op2.mk fun A f s x y Q E hr hs hx hy hQ => by
    obtain ⟨d, es, m, rfl, hm, hd, hv, hn⟩ := hx.dict_inv
    obtain ⟨t, rfl⟩ := hy.int_inv
    have hL := hs _ _ hd
    obtain ⟨kv, h1, h2⟩ := hv.dictAt (W := W) hL hn
    have hD := h2.dictOf
    rcases h1.at k with ⟨h3, h4⟩ | ⟨v', y', h3, h4, h5⟩
    · rw [h] at h3; cases h3
    · rw [h] at h3; cases h3
      exact wpAny_getItem_of (intKind_is _ _ k t) hD.mapOf h4 (hQ _ f s.heap _ (Ok.refl hs) h5)
/-! lists -/
/-! reversed -/
theorem Walks.weaken2 {prog : Program} {w : World} {A : Around} {I : Addr} {fp wr : List Addr} {m : Nat} {P P' : Nat → Value → Prop} {S : Nat → Heap → Prop} (x : Walks prog w A I fp wr m P S) (h : ∀ i v, i < m → P i v → P' i v) : Walks prog w A I fp wr m P' S where
  sub := x.sub
  frame := x.frame
  item := fun i s Q E hi st hQ => x.item i s Q E hi st fun v h' tk hp => hQ v h' tk (h i v hi hp)
  done := x.done
  self := x.self
theorem HI.reversed {x : Str} {np pos : Pos} {e : Expr} {xs : List V} (F : FC sc nms gl) (hm : x ∈ gl) (hb : Bi W x (.type "reversed")) (ha : HE W n sc ρ e (.val (.list xs)))
    (hs : ∀ env, starEach [e] env = (false, eval e env) :: starEach [] env := by intro _; rfl) (hpl : ∀ env, (backTo pos (starEach [] env)).any (·.1) = false := by intro _; rfl) :
    HI W n sc ρ (.Call (.Name x np) [e] [] pos) xs.reverse := by
  have hop : OpX W n (fun zs => call (.type "reversed") zs) [.list xs] (fun f h f' h' z => ∃ D l vs m, z = .ref D ∧ f' l = some (lobj vs m) ∧ Reps f' xs vs ∧ h.get? D = none ∧ f' D = none ∧ h'.IsRevIter D l ((vs.length : Int) - 1)) := by
    intro A f s ys Q E hr hb hs hv hQ
    obtain ⟨y, rfl, hy⟩ := hv.one_inv
    obtain ⟨l, vs, m, rfl, hl, hw⟩ := hy.list_inv
    refine call_reversed_list (isList (hs _ _ hl)) ?_
    refine hQ _ f _ s.toks (ok_push hs) ⟨_, l, vs, m, rfl, hl, hw, size_none _, new_none hs (size_none _), ⟨_, Heap.get?_push_size _ rfl, rfl, by simp [revObj]⟩⟩
  intro env A P f s Q E p hQ
  refine JX.callT (F.gl x hm) hb (HA.cons ha HA.nil hs) hop ?_ hs hpl env A P f s _ E p ?_
  · intro f f₁ f' h h₁ h' z k ⟨D, l, vs, m, h1, h2, h3, h4, h5, h6⟩
    exact ⟨D, l, vs, m, h1, h2, h3, k.gone h4, h5, h6⟩
  · rintro z f' h' tk k ⟨D, l, vs, m, rfl, hl, hv, hD, hD', hR⟩
    refine wpAny_pyIter_revIter hR (hQ _ f' h' tk k ?_)
    have p1 := p.step k
    have hL := p1.sub _ _ hl
    have hne : l ≠ D := fun e => by subst e; rw [hD'] at hl; cases hl
    refine ⟨D, [D, l], [D], fun i h => i ≤ vs.toArray.size ∧ h.IsRevIter D l ((vs.toArray.size : Int) - 1 - (i : Int)) ∧ h.IsList l vs.toArray, rfl, fun A' hA => ?_, ⟨Nat.zero_le _, by simpa using hR, isList hL⟩, fun b hb => by rw [List.mem_singleton.mp hb]; exact ⟨hD, hD'⟩,
      fun i h' q b hb => by rw [List.mem_singleton.mp hb]; obtain ⟨o, ho, hc, hd⟩ := q.2.1; exact ⟨o, ho, .ty hc hd (by intro q t; nofun)⟩, fun b hb => ?_⟩
    · have := Walks.listRev (prog := W.prog) (w := W.w) hA D l hne vs.toArray
      rw [show xs.reverse.length = vs.toArray.size by rw [hv.arr, List.length_reverse]]
      refine Walks.weaken2 this fun i v hi hv' => ?_
      refine hv.reverse.get' (i := i) ?_
      rw [List.getElem?_reverse (by simpa using hi)]
      simpa using hv'
    · rcases List.mem_cons.mp hb with rfl | hb
      · exact .inl (List.mem_singleton.mpr rfl)
      · rw [List.mem_singleton.mp hb]; exact .inr ⟨_, hl⟩
end Mine
end

/-! part M15 -/
section
open PySem PySem.W PyProof.Rows PySem.Calls
namespace Mine
variable {W : Wd} {n : Nat} {sc : Scope} {ρ : List Bd}

/-! functions made in a frame -/
noncomputable abbrev cloFd (x qual : Str) (params : Arguments) (body : List Stmt) (scope : Scope) (cl : List (Str × Addr)) (doc pm cdv ct : Value) : FuncData := fnX x qual params body scope cl .none .none doc pm none cdv ct
structure CFn (x qual : Str) (params : Arguments) (body : List Stmt) (scope : Scope) (names : List Str) : Prop where
  nodup : (vnames scope).Nodup
  plain : ∀ y ∈ vnames scope, (y == ("__debug__" : Str)) = false ∧ (y == ("__classdict__" : Str)) = false
  kind : scope.kind = .function
  co : scope.isCoroutine = false
  gen : scope.isGenerator = false
  kinds : ∀ y ∈ vnames scope, scope.names.lookup y = some .local ∨ (scope.names.lookup y = some .free ∧ y ∉ names)
  nocell : ∀ y ∈ scope.names, y.2 ≠ .cell
  nocell' : ∀ y : Str, scope.names.lookup y ≠ some .cell
  pars : ∀ y ∈ names, scope.names.lookup y = some .local
  nn : names.Nodup
  bind : ∀ cl pm cd doc ct (xs : List Value), xs.length = names.length → bindArgs (cloFd x qual params body scope cl doc pm cd ct) ⟨xs, []⟩ = pure (names.zip xs)
theorem lookup_in {β : Type} {y : Str} {v : β} : ∀ (l : List (Str × β)), (l.map (·.1)).Nodup → (y, v) ∈ l → l.lookup y = some v
  | [], _, h => by simp at h
  | (z, u) :: r, hn, h => by
    simp only [List.map_cons, List.nodup_cons] at hn
    rcases List.mem_cons.mp h with e | h'
    · cases e; simp [List.lookup]
    · have hne : (y == z) = false := by
        rw [beq_eq_false_iff_ne]; rintro rfl
        exact hn.1 (List.mem_map_of_mem (f := (·.1)) h')
      simp only [List.lookup, hne]
      exact lookup_in r hn.2 h'
theorem reverse_lookup {y : Str} : ∀ (l : List (Str × Value)), (l.map (·.1)).Nodup → l.reverse.lookup y = l.lookup y := by
  intro l h
  cases q : l.lookup y with
  | none =>
    rw [List.lookup_eq_none_iff] at q ⊢
    intro p hp; exact q p (List.mem_reverse.mp hp)
  | some v =>
    have hm := mem_of_lookup q
    exact lookup_in _ (by rw [List.map_reverse]; unfold List.Nodup; rw [List.pairwise_reverse]; exact h.imp fun q => Ne.symm q) (List.mem_reverse.mpr hm)
theorem clo_call {x qual : Str} {params : Arguments} {body : List Stmt} {scope : Scope} {names : List Str} {cl : List (Str × Addr)} {doc pm cdv ct : Value} {fa : Addr} {fo : Obj} {A : Around} {P f : FH} {s : Shared} {xs : List Value} {Q : Value → Shared → Prop} {E : Value → Shared → Prop}
    (ok : CFn x qual params body scope names) (hr : Room (n + 1) A) (hb : Bs W f s.heap) (hs : ∀ a o, f a = some o → s.heap.get? a = some o) (ho : s.heap.get? fa = some fo) (hd : fo.data = .func (cloFd x qual params body scope cl doc pm cdv ct)) (hcd : s.heap.CodeRec cdv qual)
    (hxl : xs.length = names.length) (hP : Pin P s.heap) (hPn : ∀ a, s.heap.get? a = none → P a = none) (hcl : ∀ y c, cl.lookup y = some c → P c ≠ none ∧ ∀ y' c', cl.lookup y' = some c' → y' ≠ y → c' ≠ c)
    (hlen : ρ.length = (vnames scope).length)
    (hρ : ∀ (i : Nat) y b, (vnames scope)[i]? = some y → ρ[i]? = some b → if y ∈ names then BdOk s.heap.objs.size P f s.heap ((names.zip xs).lookup y) b else
      if scope.names.lookup y = some .free then ∃ c o, cl.lookup y = some c ∧ s.heap.IsCell c o ∧ BdOk s.heap.objs.size P f s.heap o b else b = .unb)
    (h : ∀ env h₁ tk, env.cells = cl → env.code = cdv → (∀ b o, s.heap.get? b = some o → h₁.get? b = some o) → St (fun _ => True) W n scope ρ env (A.deeper env) P f h₁ → 
      wpAny W.M (A.deeper env) (execs body env) (fun fl s' => Q (match fl with | .ret v => v | _ => .none) s') (fun _ _ => False) { s with heap := h₁, toks := tk }) : wpAny W.M A (call (.ref fa) xs) Q E s := by
  have bk : ∀ b ob, W.base.get? b = some ob → s.heap.get? b = some ob := fun b ob e => hs b ob (hb.le b ob e)
  have hzn : ((names.zip xs).map (·.1)) = names := by rw [List.map_fst_zip]; omega
  refine wpAny_call (codeAny_call_def (R := fun r s' => match r with | .ok (.ret v) => Q v s' | .ok _ => False | .error e => E e s') (binds := names.zip xs) (body := body) hr.lim ho hd (W.nolimit.keeps bk) hcd rfl (BindsTo.of_eq (ok.bind _ _ _ _ _ _ hxl)) ok.nocell ?_ ?_ ok.co ok.gen ok.kind)
  · intro p hp
    exact ok.pars p.1 (by have := List.mem_map_of_mem (f := (·.1)) hp; rwa [hzn] at this)
  · intro h₁ hns keep
    refine wpAny_mono (h (callEnv (cloFd x qual params body scope cl doc pm cdv ct) s.heap.objs.size fa) h₁ _ rfl rfl keep ?_) (fun _ _ q => q) fun _ _ q => q.elim
    have hlt : ∀ a o, s.heap.get? a = some o → a ≠ s.heap.objs.size := fun a o e => Nat.ne_of_lt (Heap.lt_size e)
    have step : ∀ {o b}, BdOk s.heap.objs.size P f s.heap o b → BdOk s.heap.objs.size P f h₁ o b := fun q => q.step (Ok.heap (W := W) hs keep)
    refine { pre := ⟨⟨rfl, ok.kind, rfl, rfl, ok.nodup, ok.plain⟩, hr.deeper _, hb.keep keep, fun a o e => keep a o (hs a o e), ?_⟩, pin := hP.keep keep, ns := ⟨_, hns⟩, locP := hPn _ (size_none _), locF := new_none hs (size_none _), cell := ?_, apart := ?_, len := hlen, capt := ?_ }
    · intro i b hi
      have hil : i < (vnames scope).length := by rw [← hlen]; exact (List.getElem?_eq_some_iff.mp hi).1
      have hy := List.getElem?_eq_getElem hil
      have hmem : (vnames scope)[i] ∈ vnames scope := List.getElem_mem hil
      have := hρ i _ b hy hi
      refine ⟨(vnames scope)[i], ?_⟩
      by_cases hn : (vnames scope)[i] ∈ names
      · rw [if_pos hn] at this
        refine ⟨_, hy, .inl ⟨ok.pars _ hn, _, hns, ?_⟩, step this⟩
        rw [reverse_lookup _ (by rw [hzn]; exact ok.nn)]
      · rw [if_neg hn] at this
        rcases ok.kinds _ hmem with q | ⟨q, _⟩
        · rw [if_neg (by rw [q]; nofun)] at this
          subst this
          refine ⟨none, hy, .inl ⟨q, _, hns, ?_⟩, rfl⟩
          rw [reverse_lookup _ (by rw [hzn]; exact ok.nn), lookup_zip_none hn]
        · rw [if_pos q] at this
          obtain ⟨c, o, h1, h2, h3⟩ := this
          exact ⟨o, hy, .inr ⟨.inr q, c, h1, h2.keeps keep⟩, step h3⟩
    · intro y c _ hk _
      exact absurd hk (ok.nocell' y)
    · intro y c _ h1 y' c' h2 hne
      exact (hcl y c h1).2 y' c' h2 hne
    · intro y c _ h1
      exact (hcl y c h1).1
/-- a call of a function that a name of the frame holds -/
theorem HE.callV {x : Str} {np pos : Pos} {e : Expr} {rest : List Expr} {vs : List V} {r : RT} {a : Addr} {o : Obj} {fd : FuncData} (hx : HE W n sc ρ (.Name x np) (.val (.obj a))) (ho : W.base.get? a = some o) (hd : o.data = .func fd) (ha : HA W n sc ρ pos (e :: rest) vs)
    (hop : Op W n (fun xs => call (.ref a) xs) vs r)
    (he : ∀ env, starEach (e :: rest) env = (false, eval e env) :: starEach rest env := by intro _; rfl) : HE W n sc ρ (.Call (.Name x np) (e :: rest) [] pos) r := by
  intro env A P f s Q E p hQ
  refine Call_ (hx env A P f s _ E p fun y f₁ h₁ tk₁ k₁ e₁ => ?_)
  obtain rfl : y = .ref a := by cases e₁; rfl
  refine callWith_def hd (ha env A P f₁ { s with heap := h₁, toks := tk₁ } _ E (p.step k₁) fun xs f₂ h₂ tk₂ k₂ r₂ => ?_) (he _)
  have p2 := (p.step k₁).step k₂
  refine ⟨p2.bk _ _ ho, hop A f₂ { s with heap := h₂, toks := tk₂ } xs Q E p.room p2.base p2.sub r₂ fun z f₃ h₃ tk₃ k₃ r₃ => ?_⟩
  exact hQ z f₃ h₃ tk₃ ((k₁.trans k₂).trans k₃) (RT.anti (k₁.trans k₂) r₃)
/-- a pure call of a function made in a frame, all it holds frozen -/
theorem clo_op {x qual : Str} {params : Arguments} {body : List Stmt} {scope : Scope} {names : List Str} {cl : List (Str × Addr)} {doc pm cdv ct : Value} {fa : Addr} {fo : Obj} {vs : List V} {v : V}
    (ok : CFn x qual params body scope names) (ho : W.base.get? fa = some fo) (hd : fo.data = .func (cloFd x qual params body scope cl doc pm cdv ct)) (hcd : ∃ c o t us, cdv = .ref c ∧ W.base.get? c = some o ∧ o.data = .fields us ∧ us[1]? = some (.str qual t))
    (hvl : vs.length = names.length) (hcl : ∀ y c, cl.lookup y = some c → (∃ o, W.base.get? c = some o) ∧ ∀ y' c', cl.lookup y' = some c' → y' ≠ y → c' ≠ c)
    (hlen : ρ.length = (vnames scope).length)
    (hρ : ∀ (i : Nat) y b, (vnames scope)[i]? = some y → ρ[i]? = some b → if y ∈ names then ∃ u, (names.zip vs).lookup y = some u ∧ b = .imm u else
      if scope.names.lookup y = some .free then ∃ c u z, cl.lookup y = some c ∧ b = .imm u ∧ W.base.IsCell c (some z) ∧ Rep W.base.get? u z else b = .unb)
    (h : HS W n scope ρ body (fnPost v)) : Op W (n + 1) (fun xs => call (.ref fa) xs) vs (.val v) := by
  intro A f s xs Q E hr hb hs hv hQ
  have bk : ∀ b ob, W.base.get? b = some ob → s.heap.get? b = some ob := fun b ob e => hs b ob (hb.le b ob e)
  have hxl : xs.length = names.length := by rw [hv.length, hvl]
  obtain ⟨c, co, t, us, rfl, hc1, hc3, hc4⟩ := hcd
  refine clo_call (P := s.heap.get?) (f := f) (ρ := ρ) ok hr hb hs (bk _ _ ho) hd ⟨c, co, us, t, rfl, bk _ _ hc1, hc3, hc4⟩ hxl Pin.self (fun a e => e) (fun y c e => ?_) hlen ?_ ?_
  · obtain ⟨⟨o, h1⟩, h2⟩ := hcl y c e
    exact ⟨by rw [bk _ _ h1]; nofun, h2⟩
  · intro i y b h1 h2
    have := hρ i y b h1 h2
    split
    · rename_i hn
      rw [if_pos hn] at this
      obtain ⟨u, h3, rfl⟩ := this
      have hz : ∀ (ns : List Str) (vs : List V) (xs : List Value), Reps f vs xs → ∀ u, (ns.zip vs).lookup y = some u → ∃ z, (ns.zip xs).lookup y = some z ∧ Rep f u z := by
        intro ns
        induction ns with
        | nil => intro vs xs _ u hu; simp at hu
        | cons a r ih =>
          intro vs xs hv u hu
          cases hv with
          | nil => simp at hu
          | cons r1 r2 =>
            simp only [List.zip_cons_cons, List.lookup] at hu ⊢
            cases q : y == a with
            | true => rw [q] at hu; simp only at hu ⊢; cases hu; exact ⟨_, rfl, r1⟩
            | false => rw [q] at hu; simp only at hu ⊢; exact ih _ _ r2 u hu
      obtain ⟨z, h4, h5⟩ := hz names vs xs hv u h3
      exact ⟨z, h4, h5⟩
    · rename_i hn
      rw [if_neg hn] at this
      split
      · rename_i hf
        rw [if_pos hf] at this
        obtain ⟨c, u, z, h3, rfl, h4, h5⟩ := this
        exact ⟨c, some z, h3, h4.keeps bk, z, rfl, h5.mono hb.le⟩
      · rename_i hf
        rw [if_neg hf] at this; exact this
  · intro env h₁ tk _ _ keep st
    refine h env _ s.heap.get? f { s with heap := h₁, toks := tk } _ _ st fun fl o ρ' f' h' tk' g st' fo hp => ?_
    have kk : Ok W f f' s.heap h' := ⟨fun a o e c => (st'.pin a o e).1 c, fun a o e c => (st'.pin a o e).2 c, fun _ => st'.pre.base.tabs, g.le, st'.pre.sub, fun a o e => g.new a o e⟩
    cases o with
    | next => cases fl with
      | next => obtain rfl : v = .none := hp; exact hQ _ f' h' tk' kk .none
      | _ => exact fo.elim
    | ret v' => cases fl with
      | ret z => obtain rfl : v' = v := hp; exact hQ _ f' h' tk' kk fo
      | _ => exact fo.elim
    | _ => exact hp.elim
end Mine
end

/-! part M16 -/
section
open PySem PySem.W PyProof.Rows PySem.Calls
namespace Mine
variable {W : Wd} {n : Nat} {sc : Scope} {ρ : List Bd} {own : Str → Prop}

noncomputable def Off (o : Obj) : Prop := ¬ IsTab o ∧ ((∃ fd, o.data = .func fd) ∨ ∃ vs, o.data = .fields vs)
theorem Off.l {o : Obj} (h : Off o) {vs : List Value} {m : Nat} : o ≠ lobj vs m := by
  rintro rfl
  rcases h.2 with ⟨_, e⟩ | ⟨_, e⟩ <;> cases e
theorem Off.d {o : Obj} (h : Off o) {vs : List DictEntry} {m : Nat} : o ≠ dobj vs m := by
  rintro rfl
  rcases h.2 with ⟨_, e⟩ | ⟨_, e⟩ <;> cases e
theorem Off.cell {o : Obj} (h : Off o) {a c : Addr} {hp : Heap} {v : Option Value} (ho : hp.get? a = some o) (hc : hp.IsCell c v) : c ≠ a := by
  rintro rfl
  obtain ⟨o', h1, h2⟩ := hc
  rw [ho] at h1; cases h1
  rcases h.2 with ⟨_, e⟩ | ⟨_, e⟩ <;> rw [h2] at e <;> cases e
theorem Off.ns {o : Obj} (h : Off o) {a c : Addr} {hp : Heap} {m : Str → Option Value} (ho : hp.get? a = some o) (hc : hp.Ns c m) : c ≠ a := by
  rintro rfl
  obtain ⟨o', es, ep, h1, h2, _⟩ := hc
  rw [ho] at h1; cases h1
  rcases h.2 with ⟨_, e⟩ | ⟨_, e⟩ <;> rw [h2] at e <;> cases e
/-- one more object pinned -/
theorem St.pinAt {env : Env} {A : Around} {P f : FH} {h : Heap} {a : Addr} {o : Obj} (st : St own W n sc ρ env A P f h) (ho : h.get? a = some o) (hf : Off o) : St own W n sc ρ env A (Pw P [a] h) f h := by
  have ne : ∀ b, b ≠ a → Pw P [a] h b = P b := fun b hb => by simp [Pw, hb]
  refine { pre := ⟨st.pre.eok, st.pre.room, st.pre.base, st.pre.sub, ?_⟩, pin := ?_, ns := st.ns, locP := ?_, locF := st.locF, cell := ?_, apart := st.apart, len := st.len, capt := ?_ }
  · intro i b e
    obtain ⟨x, w, h1, h2, h3⟩ := st.pre.vars i b e
    refine ⟨x, w, h1, h2, ?_⟩
    cases b with
    | unb => exact h3
    | imm v => exact h3
    | mutL xs => obtain ⟨c, vs, m, e1, e2, e3, e4, e5⟩ := h3; exact ⟨c, vs, m, e1, e2, e3, e4, by rw [ne c (by rintro rfl; rw [ho] at e2; cases e2; exact hf.l rfl)]; exact e5⟩
    | mutD xs => obtain ⟨c, vs, m, e1, e0, e2, e3, e4, e5, e6, e7⟩ := h3; exact ⟨c, vs, m, e1, e0, e2, e3, e4, e5, by rw [ne c (by rintro rfl; rw [ho] at e2; cases e2; exact hf.d rfl)]; exact e6, e7⟩
  · intro b o' e
    by_cases hb : b = a
    · subst hb
      have : h.get? b = some o' := by simpa [Pw] using e
      exact ⟨fun _ => this, fun c => ⟨o', this, c⟩⟩
    · rw [ne b hb] at e; exact st.pin b o' e
  · obtain ⟨m, hn⟩ := st.ns
    rw [ne _ (hf.ns ho hn)]; exact st.locP
  · intro y c h0 h1 h2
    obtain ⟨a1, a2, w, hc⟩ := st.cell y c h0 h1 h2
    exact ⟨by rw [ne c (hf.cell ho hc)]; exact a1, a2, w, hc⟩
  · intro y c h0 h1 h2
    by_cases hc : c = a
    · subst hc; simp [Pw, ho] at h2
    · rw [ne c hc] at h2; exact st.capt y c h0 h1 h2
theorem codeAmong_more {pos : Pos} {cv a b c : Value} (l : List Value) (h : TriplesOk l) : codeAmong pos (l ++ [a, b, c]) = some cv → codeAmong pos l = some cv ∨ cv = c := by
  fun_induction TriplesOk l with
  | case1 =>
    intro e
    simp only [List.nil_append] at e
    unfold codeAmong at e
    split at e
    · rename_i heq
      cases heq
      split at e
      · cases e; exact .inr rfl
      · simp [codeAmong] at e
    · cases e
  | case2 a' t b' u x rest ih =>
    intro e
    simp only [List.cons_append, codeAmong] at e ⊢
    split at e
    · rename_i hc; rw [if_pos hc]; exact .inl e
    · rename_i hc; rw [if_neg hc]; exact ih h e
  | case3 l h1 h2 => exact h.elim
theorem triples_more {ps : Array Value} {a b : Int} {c : Value} (h : TriplesOk ps.toList) : TriplesOk (ps ++ #[rawInt a, rawInt b, c]).toList := by
  simpa using TriplesOk_snoc a b c _ h
theorem pin_mono {P : FH} {h : Heap} {a : Addr} {o : Obj} (p : Pin P h) (ho : h.get? a = some o) (nt : ¬ IsTab o) : ∀ b w, P b = some w → Pw P [a] h b = some w := fun b w e => by
  unfold Pw
  split
  · rename_i hm
    obtain rfl := List.mem_singleton.mp hm
    by_cases c : IsTab w
    · obtain ⟨o', h1, h2⟩ := (p b w e).2 c
      rw [ho] at h1; cases h1; exact absurd h2 nt
    · exact (p b w e).1 c
  · exact e
theorem off_fn {fd : FuncData} : Off { cls := .type "function", data := .func fd } := ⟨fun ⟨ps, e, _⟩ => (by cases e), .inl ⟨_, rfl⟩⟩
/-- a def in a frame -/
theorem def_run {x qual : Str} {params : Arguments} {body : List Stmt} {scope : Scope} {pos : Pos} {env : Env} {A : Around} {P f : FH} {s : Shared} {Q : Flow → Shared → Prop} {E : Value → Shared → Prop} {c T : Addr} {i : Nat}
    (st : St (fun _ => True) W n sc ρ env A P f s.heap) (hcode : env.code = .ref c) (hT : (c, T, qual) ∈ W.tabs) (hq : qualnameIn env x x = qual)
    (hd0 : params.defaults = []) (hk0 : params.kw_defaults = []) (ha : annTrees params none env = [])
    (hfree : ∀ y ∈ scope.names, y.2 = .free → (env.cells.lookup y.1).isSome = true) (hnd : (scope.names.map (·.1)).Nodup)
    (hx : (vnames sc)[i]? = some x) (hfr : (sc.names.lookup x == some .free) = false)
    (hQ : ∀ fa cl doc pm cdv ct P' h' tk, (∀ y, (∃ k, (y, k) ∈ scope.names ∧ k = NameKind.free) → cl.lookup y = env.cells.lookup y) → (∀ y, (¬ ∃ k, (y, k) ∈ scope.names ∧ k = NameKind.free) → cl.lookup y = none) →
      St (fun _ => True) W n sc (ρ.set i (.imm (.obj fa))) env A P' f h' → (∀ a o, P a = some o → P' a = some o) →
      h'.get? fa = some { cls := .type "function", data := .func (cloFd x qual params body scope cl doc pm cdv ct) } → (∃ c' o t us, cdv = .ref c' ∧ h'.get? c' = some o ∧ ¬ IsTab o ∧ o.data = .fields us ∧ us[1]? = some (.str qual t)) →
      Q .next { s with heap := h', toks := tk }) :
    wpAny W.M A (exec (.FunctionDef x params body [] none [] scope none x pos) env) Q E s := by
  obtain ⟨cl, hcl, hcl1, hcl2⟩ := closureFor_run (env := env) (scope := scope) hfree hnd
  obtain ⟨ps, hP, hgood⟩ := st.pre.base.tabs _ hT
  have bk := st.pre.bk
  have hg := W.g.keeps bk
  have C := (W.code _ hT).keeps bk
  have hfT : f T = none := st.pre.base.tf _ hT
  have hgT : mainGlobals ≠ T := by
    rintro e
    obtain ⟨o, es, ep, ho, hd, _⟩ := hg
    rw [e] at ho; rw [hP] at ho; cases ho; cases hd
  have hB : s.heap.BuiltinsAt W.mg T := by
    obtain ⟨bm, ob, h1, h2, h3, h4, h5, h6⟩ := W.bmain
    have h3' := bk _ _ h3
    refine ⟨bm, ob, h1, h2, ?_, ?_, h3', h4, h5, h6⟩
    · rintro rfl
      obtain ⟨o, es, ep, ho, hd, _⟩ := hg
      rw [h3'] at ho; cases ho; rw [h6] at hd; cases hd
    · rintro rfl
      rw [hP] at h3'; cases h3'; cases h6
  -- what a made function gives
  have fin : ∀ (h₁ : Heap) (tk : Nat) (cdv ct doc pm : Value), Ok W f f s.heap h₁ → (∃ c' o t us, cdv = .ref c' ∧ h₁.get? c' = some o ∧ ¬ IsTab o ∧ o.data = .fields us ∧ us[1]? = some (.str qual t)) →
      wpAny W.M A (storeName env x (.ref h₁.objs.size)) (fun _ s'' => Q .next s'') E { s with heap := h₁.push { cls := .type "function", data := .func (cloFd x qual params body scope cl doc pm cdv ct) }, toks := tk } := by
    intro h₁ tk cdv ct doc pm k hc
    obtain ⟨c', oc, t, us, rfl, hc1, hct, hc2, hc3⟩ := hc
    have st₁ := st.step (k.trans (ok_push k.sub (o := { cls := .type "function", data := .func (cloFd x qual params body scope cl doc pm (.ref c') ct) })))
    have hfn := Heap.get?_push_size h₁ (o := { cls := .type "function", data := .func (cloFd x qual params body scope cl doc pm (.ref c') ct) }) rfl
    have hc1' : (h₁.push { cls := .type "function", data := .func (cloFd x qual params body scope cl doc pm (.ref c') ct) }).get? c' = some oc := Heap.get?_push_of_some _ hc1
    have st₂ := st₁.pinAt hfn off_fn
    have st₃ := st₂.pinAt hc1' ⟨hct, .inr ⟨us, hc2⟩⟩
    have m₁ := pin_mono st₁.pin hfn off_fn.1
    have m₂ := pin_mono st₂.pin hc1' hct
    refine st₃.store (s := { s with heap := _, toks := tk }) hx (b := .imm (.obj h₁.objs.size)) ⟨_, rfl, .obj _⟩ hfr (how := trivial) fun h' tk' st' => ?_
    have mfn : Pw (Pw P [h₁.objs.size] (h₁.push { cls := .type "function", data := .func (cloFd x qual params body scope cl doc pm (.ref c') ct) })) [c'] (h₁.push { cls := .type "function", data := .func (cloFd x qual params body scope cl doc pm (.ref c') ct) }) h₁.objs.size = some { cls := .type "function", data := .func (cloFd x qual params body scope cl doc pm (.ref c') ct) } := m₂ _ _ (by simp [Pw, hfn])
    have mc : Pw (Pw P [h₁.objs.size] (h₁.push { cls := .type "function", data := .func (cloFd x qual params body scope cl doc pm (.ref c') ct) })) [c'] (h₁.push { cls := .type "function", data := .func (cloFd x qual params body scope cl doc pm (.ref c') ct) }) c' = some oc := by simp [Pw, hc1']
    exact hQ _ cl doc pm (.ref c') ct _ h' tk' hcl1 hcl2 st' (fun a o e => m₂ a o (m₁ a o e)) ((st'.pin _ _ mfn).1 off_fn.1) ⟨c', oc, t, us, rfl, (st'.pin _ _ mc).1 hct, hct, hc2, hc3⟩
  refine nestDef_K hd0 hk0 ha ?_
  rw [hq]
  cases hca : codeAmong pos ps.toList with
  | some cv =>
    refine makeFunction_hit (mg := W.mg) hcl st.pre.eok.globals hg hcode C hP hgood.1 hca hB fun ctv doc h₁ tk keep _ => ?_
    have k := Ok.heap (W := W) (f := f) st.pre.sub keep
    obtain ⟨c', o, vs, t, e1, e2, e3, e4⟩ := hgood.2 pos cv hca
    exact fin h₁ tk cv ctv doc _ k ⟨c', o, t, vs, e1, keep _ _ e2, notTab_c e3 e4, e3, e4⟩
  | none =>
    refine makeFunction_K (mg := W.mg) hcl st.pre.eok.globals hg hcode C hP hgood.1 hca hgT hB fun c' ctv doc h₁ tk hx' hge hlt hrec htb => ?_
    have ext : Ext s.heap h₁ := fun a o e nt => hx' a o (by rintro rfl; rw [hP] at e; cases e; exact nt ⟨_, rfl, hgood.1⟩) e
    have tg : TriplesOk (ps ++ #[rawInt pos.line, rawInt pos.col, .ref c']).toList := triples_more hgood.1
    have k : Ok W f f s.heap h₁ := {
      ext := ext
      tab := fun a o e ht => by
        by_cases c : a = T
        · subst c; exact ⟨_, htb, _, rfl, tg⟩
        · exact ⟨o, hx' a o c e, ht⟩
      tabs := fun all q hq => by
        by_cases c : q.2.1 = T
        · have hu := W.uniq _ hq _ hT c
          rw [c, hu]
          refine ⟨_, htb, tg, fun pos' cv hc => ?_⟩
          rw [show (ps ++ #[rawInt pos.line, rawInt pos.col, .ref c']).toList = ps.toList ++ [rawInt pos.line, rawInt pos.col, .ref c'] by simp] at hc
          rcases codeAmong_more _ hgood.1 hc with h1 | h1
          · exact CodeRec.keepsT (hgood.2 pos' cv h1) ext
          · rw [h1]; exact hrec
        · obtain ⟨qs, g1, g2⟩ := all q hq
          exact ⟨qs, hx' _ _ c g1, g2.keeps ext⟩
      le := Le.refl _
      sub := fun a o e => hx' a o (by rintro rfl; rw [hfT] at e; cases e) (st.pre.sub a o e)
      new := fun a o e => .inl e }
    obtain ⟨c₂, oc, vs, t, e1, e2, e3, e4⟩ := hrec
    exact fin h₁ tk (.ref c') ctv doc _ k ⟨c₂, oc, t, vs, e1, e2, notTab_c e3 e4, e3, e4⟩
end Mine
end

/-! part M17 -/
section
open PySem PySem.W PyProof.Rows PySem.Calls
namespace Mine
variable {W : Wd} {n : Nat} {sc : Scope} {ρ : List Bd} {own : Str → Prop}

/-! the world grown: all that lies in the heap now is base, but the tables and what is hidden -/
noncomputable def Wd.hid (W : Wd) (hide : List Addr) : List Addr := hide ++ W.tabs.map (·.2.1)
theorem grow_keep {W : Wd} {h : Heap} {hide : List Addr} (bk : ∀ a o, W.base.get? a = some o → h.get? a = some o) (away : ∀ a ∈ W.hid hide, W.base.get? a = none) :
    ∀ a o, W.base.get? a = some o → (hideAll h (W.hid hide)).get? a = some o := fun a o e => hideAll_get _ (bk a o e) fun hm => by rw [away a hm] at e; cases e
noncomputable def Wd.grow (W : Wd) (h : Heap) (hide : List Addr) (bk : ∀ a o, W.base.get? a = some o → h.get? a = some o) (away : ∀ a ∈ W.hid hide, W.base.get? a = none) : Wd :=
  have K := grow_keep bk away
  { prog := W.prog, w := W.w, base := hideAll h (W.hid hide), mg := W.mg, mb := W.mb, g := W.g.keeps K, b := W.b.keeps K, nolimit := W.nolimit.keeps K,
    nodigits := let ⟨mc, h1, h2⟩ := W.nodigits; ⟨mc, h1.keeps K, h2⟩, boot := W.boot, tabs := W.tabs, code := fun q hq => (W.code q hq).keeps K, uniq := W.uniq,
    bmain := let ⟨bm, ob, h1, h2, h3, h4⟩ := W.bmain; ⟨bm, ob, h1, h2, K _ _ h3, h4⟩ }
theorem Bs.away {f : FH} {h : Heap} (b : Bs W f h) {hide : List Addr} (hf : ∀ a ∈ hide, f a = none) : ∀ a ∈ W.hid hide, W.base.get? a = none := fun a hm => by
  cases q : W.base.get? a with
  | none => rfl
  | some o =>
    have := b.le _ _ q
    rcases List.mem_append.mp hm with h1 | h1
    · rw [hf a h1] at this; cases this
    · obtain ⟨r, hr, rfl⟩ := List.mem_map.mp h1
      rw [b.tf r hr] at this; cases this
theorem Bs.up {f : FH} {h : Heap} (b : Bs W f h) (hs : ∀ a o, f a = some o → h.get? a = some o) {hide : List Addr} (hf : ∀ a ∈ hide, f a = none) : Le f (hideAll h (W.hid hide)).get? := fun a o e => hideAll_get _ (hs a o e) fun hm => by
  rcases List.mem_append.mp hm with h1 | h1
  · rw [hf a h1] at e; cases e
  · obtain ⟨r, hr, rfl⟩ := List.mem_map.mp h1
    rw [b.tf r hr] at e; cases e
theorem Bs.grow {f : FH} {h : Heap} (b : Bs W f h) {hide : List Addr} (bk : ∀ a o, W.base.get? a = some o → h.get? a = some o) (away : ∀ a ∈ W.hid hide, W.base.get? a = none) : Bs (W.grow h hide bk away) (hideAll h (W.hid hide)).get? h where
  le := Le.refl _
  tf := fun q hq => hideAll_none _ (List.mem_append_right _ (List.mem_map_of_mem (f := fun (q : Addr × Addr × Str) => q.2.1) hq))
  tabs := b.tabs
theorem Pre.grow {env : Env} {A : Around} {P f : FH} {h : Heap} (p : Pre W n sc ρ env A P f h) (hi : ∀ b ∈ ρ, immOnly b = true) {hide : List Addr} (hf : ∀ a ∈ hide, f a = none) (away : ∀ a ∈ W.hid hide, W.base.get? a = none) :
    Pre (W.grow h hide p.bk away) n sc ρ env A P (hideAll h (W.hid hide)).get? h where
  eok := p.eok
  room := p.room
  base := p.base.grow p.bk away
  sub := fun a o e => of_hideAll _ e
  vars := fun i b e => by
    obtain ⟨x, o, h1, h2, h3⟩ := p.vars i b e
    refine ⟨x, o, h1, h2, ?_⟩
    have := hi b (List.mem_of_getElem? e)
    cases b with
    | unb => exact h3
    | imm v => obtain ⟨y, e, r⟩ := h3; exact ⟨y, e, r.mono (p.base.up p.sub hf)⟩
    | _ => cases this
theorem Ok.ungrow {f f'' : FH} {h h' : Heap} {hide : List Addr} (b : Bs W f h) (hs : ∀ a o, f a = some o → h.get? a = some o) (hf : ∀ a ∈ hide, f a = none) (bk : ∀ a o, W.base.get? a = some o → h.get? a = some o) (away : ∀ a ∈ W.hid hide, W.base.get? a = none)
    (k : Ok (W.grow h hide bk away) (hideAll h (W.hid hide)).get? f'' h h') : Ok W f f h h' where
  ext := k.ext
  tab := k.tab
  tabs := k.tabs
  le := Le.refl _
  sub := fun a o e => k.sub a o (k.le a o (b.up hs hf a o e))
  new := fun a o e => .inl e
/-- an expression of the frame, whose end is plain, in the grown world -/
theorem JX.grown {α : Type} {t : Env → Sem α} {R : FH → Heap → FH → Heap → α → Prop} {env : Env} {A : Around} {P f : FH} {s : Shared} {Q : α → Shared → Prop} {E : Value → Shared → Prop} {hide : List Addr}
    (p : Pre W n sc ρ env A P f s.heap) (hi : ∀ b ∈ ρ, immOnly b = true) (hf : ∀ a ∈ hide, f a = none)
    (h : ∀ away, JX (W.grow s.heap hide p.bk away) n sc ρ t R)
    (hQ : ∀ x f'' h' tk, Ok W f f s.heap h' → R (hideAll s.heap (W.hid hide)).get? s.heap f'' h' x → Q x { s with heap := h', toks := tk }) : wpAny W.M A (t env) Q E s := by
  have away := p.base.away hf
  refine h away env A P _ s Q E (p.grow hi hf away) fun x f'' h' tk k r => ?_
  exact hQ x f'' h' tk (Ok.ungrow p.base p.sub hf p.bk away k) r
/-! names of a frame with what it captured -/
variable {nms gl : List Str} {Post : Out → List Bd → Prop}
theorem HS.asgC {x : Str} {xp pos : Pos} {e : Expr} {rest : List Stmt} {v : V} {ρ' : List Bd} {i : Nat} (F : FC sc nms gl) (hfr : (sc.names.lookup x == some .free) = false) (h : HE W n sc ρ e (.val v)) (hp : Put nms ρ x (.imm v) ρ' i) (hn : HS W n sc ρ' rest Post)
    (hsw : ∀ env, env.scope = sc → swapsWith e (some (.Name x xp)) pos.line env = pure false := by intro _ _; rfl) : HS W n sc ρ (.Assign [.Name x xp] e pos :: rest) Post := by
  obtain ⟨h1, rfl⟩ := hp.at
  exact HS.assign i h hn (by rw [F.nm]; exact h1) hfr hsw
/-- a function made in a frame, in the base -/
noncomputable def CloAt (W : Wd) (x qual : Str) (params : Arguments) (body : List Stmt) (scope : Scope) (fa : Addr) (cl : List (Str × Addr)) : Prop :=
  (∃ fo doc pm cdv ct, W.base.get? fa = some fo ∧ fo.data = .func (cloFd x qual params body scope cl doc pm cdv ct) ∧ ∃ c o t us, cdv = .ref c ∧ W.base.get? c = some o ∧ o.data = .fields us ∧ us[1]? = some (.str qual t)) ∧
  ∀ y c, cl.lookup y = some c → (∃ o, W.base.get? c = some o) ∧ ∀ y' c', cl.lookup y' = some c' → y' ≠ y → c' ≠ c
noncomputable def Caps (W : Wd) (cl : List (Str × Addr)) (l : List (Str × V)) : Prop := ∀ p ∈ l, ∃ c z, cl.lookup p.1 = some c ∧ W.base.IsCell c (some z) ∧ Rep W.base.get? p.2 z
theorem CloAt.op {x qual : Str} {params : Arguments} {body : List Stmt} {scope : Scope} {fa : Addr} {cl : List (Str × Addr)} {names : List Str} {vs : List V} {v : V} {l : List (Str × V)} (C : CloAt W x qual params body scope fa cl) (K : Caps W cl l) (ok : CFn x qual params body scope names) (hvl : vs.length = names.length)
    (hlen : ρ.length = (vnames scope).length)
    (hρ : ∀ (i : Nat) y b, (vnames scope)[i]? = some y → ρ[i]? = some b → if y ∈ names then ∃ u, (names.zip vs).lookup y = some u ∧ b = .imm u else
      if scope.names.lookup y = some .free then ∃ u, (y, u) ∈ l ∧ b = .imm u else b = .unb)
    (h : HS W n scope ρ body (fnPost v)) : Op W (n + 1) (fun xs => call (.ref fa) xs) vs (.val v) := by
  obtain ⟨⟨fo, doc, pm, cdv, ct, h1, h2, c, o, t, us, h3, h4, h5, h6⟩, hcl⟩ := C
  refine clo_op (ρ := ρ) ok h1 h2 ⟨c, o, t, us, h3, h4, h5, h6⟩ hvl hcl hlen (fun i y b e1 e2 => ?_) h
  have := hρ i y b e1 e2
  split
  · rename_i hn; rw [if_pos hn] at this; exact this
  · rename_i hn; rw [if_neg hn] at this
    split
    · rename_i hf; rw [if_pos hf] at this
      obtain ⟨u, hm, rfl⟩ := this
      obtain ⟨c, z, g1, g2, g3⟩ := K _ hm
      exact ⟨c, u, z, g1, rfl, g2, g3⟩
    · rename_i hf; rw [if_neg hf] at this; exact this
theorem CloAt.callV {x qual : Str} {params : Arguments} {body : List Stmt} {scope : Scope} {fa : Addr} {cl : List (Str × Addr)} {y : Str} {np pos : Pos} {e : Expr} {rest : List Expr} {vs : List V} {r : RT} (C : CloAt W x qual params body scope fa cl) (hx : HE W n sc ρ (.Name y np) (.val (.obj fa))) (ha : HA W n sc ρ pos (e :: rest) vs)
    (hop : Op W n (fun xs => call (.ref fa) xs) vs r)
    (he : ∀ env, starEach (e :: rest) env = (false, eval e env) :: starEach rest env := by intro _; rfl) : HE W n sc ρ (.Call (.Name y np) (e :: rest) [] pos) r := by
  obtain ⟨⟨fo, doc, pm, cdv, ct, h1, h2, _⟩, _⟩ := C
  exact HE.callV hx h1 h2 ha hop he
/-- from a table of the frame's names to what clo_op asks -/
noncomputable def rhoOk (names : List Str) (vs : List V) (scope : Scope) (l : List (Str × V)) : List Str → List Bd → Prop
  | [], [] => True
  | y :: r, b :: q => (if y ∈ names then ∃ u, (names.zip vs).lookup y = some u ∧ b = .imm u else if scope.names.lookup y = some .free then ∃ u, (y, u) ∈ l ∧ b = .imm u else b = .unb) ∧ rhoOk names vs scope l r q
  | _, _ => False
theorem rhoOk.at {names : List Str} {vs : List V} {scope : Scope} {l : List (Str × V)} : ∀ {ns : List Str} {ρ : List Bd}, rhoOk names vs scope l ns ρ → ∀ (i : Nat) y b, ns[i]? = some y → ρ[i]? = some b →
    if y ∈ names then ∃ u, (names.zip vs).lookup y = some u ∧ b = .imm u else if scope.names.lookup y = some .free then ∃ u, (y, u) ∈ l ∧ b = .imm u else b = .unb
  | [], [], _, i, y, b, h, _ => by simp at h
  | z :: r, c :: q, h, 0, y, b, h1, h2 => by simp at h1 h2; subst h1 h2; exact h.1
  | z :: r, c :: q, h, i + 1, y, b, h1, h2 => rhoOk.at h.2 i y b (by simpa using h1) (by simpa using h2)
/-! what a function made here has captured -/
theorem St.cellOf {env : Env} {A : Around} {P f : FH} {h : Heap} {i : Nat} {y : Str} {b : Bd} (st : St (fun _ => True) W n sc ρ env A P f h) (hy : (vnames sc)[i]? = some y) (hb : ρ[i]? = some b) (hk : sc.names.lookup y = some .cell) :
    ∃ c o, env.cells.lookup y = some c ∧ h.IsCell c o ∧ BdOk env.locals P f h o b := by
  obtain ⟨x, o, h1, h2, h3⟩ := st.pre.vars i b hb
  rw [st.pre.eok.scope, hy] at h1; cases h1
  have hkd : env.kindOf y = some .cell := by show env.scope.names.lookup y = _; rw [st.pre.eok.scope]; exact hk
  rcases h2 with ⟨k, _⟩ | ⟨_, c, hc, hv⟩
  · rw [hkd] at k; cases k
  · exact ⟨c, o, hc, hv, h3⟩
theorem St.cellSome {env : Env} {A : Around} {P f : FH} {h : Heap} {i : Nat} {y : Str} (st : St (fun _ => True) W n sc ρ env A P f h) (hy : (vnames sc)[i]? = some y) (hk : sc.names.lookup y = some .cell) :
    ∃ c o, env.cells.lookup y = some c ∧ h.IsCell c o := by
  have hlt : i < ρ.length := by rw [st.len]; exact (List.getElem?_eq_some_iff.mp hy).1
  obtain ⟨c, o, h1, h2, _⟩ := st.cellOf hy (List.getElem?_eq_getElem hlt) hk
  exact ⟨c, o, h1, h2⟩
theorem Bs.off_hid {f : FH} {h : Heap} (b : Bs W f h) {hide : List Addr} {a : Addr} {o : Obj} (ho : h.get? a = some o) (hn : ¬ IsTab o) (hh : a ∉ hide) : (hideAll h (W.hid hide)).get? a = some o := hideAll_get _ ho fun hm => by
  rcases List.mem_append.mp hm with h1 | h1
  · exact hh h1
  · obtain ⟨r, hr, rfl⟩ := List.mem_map.mp h1
    obtain ⟨ps, g1, g2⟩ := b.tabs r hr
    rw [ho] at g1; cases g1
    exact hn ⟨_, rfl, g2.1⟩
theorem notTab_cell {o : Obj} {v : Option Value} (h : o.data = .cell v) : ¬ IsTab o := fun ⟨ps, e, _⟩ => by subst e; cases h
theorem notTab_fn {fd : FuncData} : ¬ IsTab { cls := .type "function", data := .func fd } := fun ⟨ps, e, _⟩ => by cases e
/-- the names of l are cells of the frame -/
noncomputable def CellsOf (sc : Scope) (ρ : List Bd) (l : List (Str × V)) : Prop := ∀ p ∈ l, ∃ i : Nat, (vnames sc)[i]? = some p.1 ∧ ρ[i]? = some (.imm p.2) ∧ sc.names.lookup p.1 = some .cell
theorem St.caps {env : Env} {A : Around} {P f : FH} {h : Heap} {hide : List Addr} {cl : List (Str × Addr)} {l : List (Str × V)} (st : St (fun _ => True) W n sc ρ env A P f h) (hf : ∀ a ∈ hide, f a = none) (hl : CellsOf sc ρ l) (hc : ∀ p ∈ l, cl.lookup p.1 = env.cells.lookup p.1)
    (hh : ∀ a ∈ hide, ∀ o, ¬ h.IsCell a o) (away : ∀ a ∈ W.hid hide, W.base.get? a = none) : Caps (W.grow h hide st.pre.bk away) cl l := fun p hp => by
  obtain ⟨i, h1, h2, h3⟩ := hl p hp
  obtain ⟨c, o, g1, g2, z, rfl, g3⟩ := st.cellOf h1 h2 h3
  obtain ⟨ob, q1, q2⟩ := id g2
  exact ⟨c, z, by rw [hc p hp]; exact g1, ⟨ob, st.pre.base.off_hid q1 (notTab_cell q2) fun hm => hh c hm _ g2, q2⟩, g3.mono (st.pre.base.up st.pre.sub hf)⟩
theorem St.clo {x qual : Str} {params : Arguments} {body : List Stmt} {scope : Scope} {fa : Addr} {doc pm cdv ct : Value} {env : Env} {A : Around} {P f : FH} {h : Heap} {hide : List Addr} {cl : List (Str × Addr)} {free : List Str} (st : St (fun _ => True) W n sc ρ env A P f h)
    (hfree : ∀ y, (∃ k, (y, k) ∈ scope.names ∧ k = NameKind.free) → y ∈ free) (hcl1 : ∀ y, (∃ k, (y, k) ∈ scope.names ∧ k = NameKind.free) → cl.lookup y = env.cells.lookup y) (hcl2 : ∀ y, (¬ ∃ k, (y, k) ∈ scope.names ∧ k = NameKind.free) → cl.lookup y = none)
    (hcells : ∀ y ∈ free, ∃ i : Nat, (vnames sc)[i]? = some y ∧ sc.names.lookup y = some .cell) (hh : ∀ a ∈ hide, ∃ vs m, h.get? a = some (lobj vs m)) (away : ∀ a ∈ W.hid hide, W.base.get? a = none)
    (hfa : h.get? fa = some { cls := .type "function", data := .func (cloFd x qual params body scope cl doc pm cdv ct) }) (hcd : ∃ c' o t us, cdv = .ref c' ∧ h.get? c' = some o ∧ ¬ IsTab o ∧ o.data = .fields us ∧ us[1]? = some (.str qual t)) :
    CloAt (W.grow h hide st.pre.bk away) x qual params body scope fa cl := by
  have nh : ∀ {a : Addr} {o : Obj}, h.get? a = some o → (∀ vs m, o ≠ lobj vs m) → a ∉ hide := fun e q hm => by
    obtain ⟨vs, m, e'⟩ := hh _ hm
    rw [e] at e'; cases e'; exact q _ _ rfl
  refine ⟨⟨_, doc, pm, cdv, ct, st.pre.base.off_hid hfa notTab_fn (nh hfa fun vs m e => by have := congrArg Obj.data e; cases this), rfl, ?_⟩, fun y c e => ?_⟩
  · obtain ⟨c', o, t, us, rfl, h1, h2, h3, h4⟩ := hcd
    exact ⟨c', o, t, us, rfl, st.pre.base.off_hid h1 h2 (nh h1 fun vs m e => by rw [e] at h3; cases h3), h3, h4⟩
  · have hy : ∃ k, (y, k) ∈ scope.names ∧ k = NameKind.free := by
      by_cases q : ∃ k, (y, k) ∈ scope.names ∧ k = NameKind.free
      · exact q
      · rw [hcl2 y q] at e; cases e
    rw [hcl1 y hy] at e
    obtain ⟨i, h1, h2⟩ := hcells y (hfree y hy)
    obtain ⟨c₂, o, g1, g2⟩ := st.cellSome h1 h2
    rw [e] at g1; cases g1
    obtain ⟨ob, q1, q2⟩ := g2
    refine ⟨⟨ob, st.pre.base.off_hid q1 (notTab_cell q2) (nh q1 fun vs m e => by rw [e] at q2; cases q2)⟩, fun y' c' e' hne => ?_⟩
    have hy' : ∃ k, (y', k) ∈ scope.names ∧ k = NameKind.free := by
      by_cases q : ∃ k, (y', k) ∈ scope.names ∧ k = NameKind.free
      · exact q
      · rw [hcl2 y' q] at e'; cases e'
    rw [hcl1 y' hy'] at e'
    exact st.apart y c trivial e y' c' e' hne
end Mine
end

/-! part M18 -/
section
open PySem PySem.W PyProof.Rows PySem.Calls
namespace Mine
variable {W : Wd} {n : Nat} {sc : Scope} {ρ : List Bd} {own : Str → Prop} {nms gl : List Str} {Post : Out → List Bd → Prop}
/-! the methods -/
theorem HE.bitLen {o : Expr} {apos pos : Pos} {a : Int} (ho : HE W n sc ρ o (.val (.int a)))
    (hbase : ∀ env, attributeBase o "bit_length" env (eval o env) = eval o env := by intro _; rfl) (hline : (apos.endLine == pos.line) = true := by rfl) :
    HE W n sc ρ (.Call (.Attribute o "bit_length" apos) [] [] pos) (.val (.int (Builtin.Int.intBits a))) := HE.meth0 ho OpC.bits rfl PySem.F.plainAttrs_int PySem.F.slot_int_bit_length PySem.F.type_int_bit_length hbase hline
theorem HE.lowerM {o : Expr} {apos pos : Pos} {a : Str} (ho : HE W n sc ρ o (.val (.str a))) (hs : a.length ≤ 1000000)
    (hbase : ∀ env, attributeBase o "lower" env (eval o env) = eval o env := by intro _; rfl) (hline : (apos.endLine == pos.line) = true := by rfl) :
    HE W n sc ρ (.Call (.Attribute o "lower" apos) [] [] pos) (.val (.str (Txt.lower a))) := HE.meth0 ho (OpC.lower hs) rfl PySem.F.plainAttrs_str PySem.F.slot_str_lower PySem.F.type_str_lower hbase hline
section
variable {o e : Expr} {apos pos : Pos}
theorem HE.joinM {a : Str} {ns : List Str} (ho : HE W n sc ρ o (.val (.str a))) (he : HE W n sc ρ e (.val (.list (ns.map .str)))) (hs : JoinOk a ns = true)
    (hbase : ∀ env, attributeBase o "join" env (eval o env) = eval o env := by intro _; rfl)
    (hfew : ∀ env, ((backTo pos (starEach [e] env)).all (fun x => !x.1) && (backToKw pos (keywordEach [] env)).all (fun x => x.1.isSome) && decide ([e].length + ([] : List Keyword).length + (if ([] : List Keyword).isEmpty then 0 else 1) < 30)) = true := by intro _; rfl)
    (hline : (apos.endLine == pos.line) = true := by rfl)
    (hst : ∀ env, starEach [e] env = (false, eval e env) :: starEach [] env := by intro _; rfl) (hpl : ∀ env, (backTo pos (starEach [] env)).any (·.1) = false := by intro _; rfl) :
    HE W n sc ρ (.Call (.Attribute o "join" apos) [e] [] pos) (.val (.str (Txt.join a ns))) :=
  HE.meth ho (HA.cons he HA.nil hst) (OpC.join hs) rfl PySem.F.plainAttrs_str PySem.F.slot_str_join PySem.F.type_str_join hbase hfew hline hst hpl
theorem HE.splitM {a b : Str} (ho : HE W n sc ρ o (.val (.str a))) (he : HE W n sc ρ e (.val (.str b))) (hb : (b.length == 0) = false) (ha : a.length ≤ 100000)
    (hbase : ∀ env, attributeBase o "split" env (eval o env) = eval o env := by intro _; rfl)
    (hfew : ∀ env, ((backTo pos (starEach [e] env)).all (fun x => !x.1) && (backToKw pos (keywordEach [] env)).all (fun x => x.1.isSome) && decide ([e].length + ([] : List Keyword).length + (if ([] : List Keyword).isEmpty then 0 else 1) < 30)) = true := by intro _; rfl)
    (hline : (apos.endLine == pos.line) = true := by rfl)
    (hst : ∀ env, starEach [e] env = (false, eval e env) :: starEach [] env := by intro _; rfl) (hpl : ∀ env, (backTo pos (starEach [] env)).any (·.1) = false := by intro _; rfl) :
    HE W n sc ρ (.Call (.Attribute o "split" apos) [e] [] pos) (.val (.list ((Txt.split a b).map .str))) :=
  HE.meth ho (HA.cons he HA.nil hst) (OpC.split hb ha) rfl PySem.F.plainAttrs_str PySem.F.slot_str_split PySem.F.type_str_split hbase hfew hline hst hpl
theorem HE.dgetM {e' : Expr} {kvs : List (Int × V)} {k : Int} {v : V} (ho : HE W n sc ρ o (.val (.dict kvs))) (he : HE W n sc ρ e (.val (.int k))) (he' : HE W n sc ρ e' (.val v))
    (hbase : ∀ env, attributeBase o "get" env (eval o env) = eval o env := by intro _; rfl)
    (hfew : ∀ env, ((backTo pos (starEach [e, e'] env)).all (fun x => !x.1) && (backToKw pos (keywordEach [] env)).all (fun x => x.1.isSome) && decide ([e, e'].length + ([] : List Keyword).length + (if ([] : List Keyword).isEmpty then 0 else 1) < 30)) = true := by intro _; rfl)
    (hline : (apos.endLine == pos.line) = true := by rfl)
    (hst : ∀ env, starEach [e, e'] env = (false, eval e env) :: starEach [e'] env := by intro _; rfl) (hst' : ∀ env, starEach [e'] env = (false, eval e' env) :: starEach [] env := by intro _; rfl) (hpl : ∀ env, (backTo pos (starEach [e'] env)).any (·.1) = false := by intro _; rfl) :
    HE W n sc ρ (.Call (.Attribute o "get" apos) [e, e'] [] pos) (.val ((dget kvs k).getD v)) :=
  HE.meth ho (HA.cons he (HA.cons he' HA.nil hst') hst) OpC.dgetD rfl PySem.F.plainAttrs_dict PySem.F.slot_dict_get PySem.F.type_dict_get hbase hfew hline hst hpl
end
theorem Op.addLV {xs ys : List V} (h : xs.length + ys.length ≤ 1000000) : Op W n (op2 (binaryOp .Add)) [.list xs, .list ys] (.val (.list (xs ++ ys))) := (Op.addL h).toV
theorem Op.mulLV {v : V} {k : Int} (h1 : k ≤ 1000000) (h0 : -1000000 ≤ k) : Op W n (op2 (binaryOp .Mult)) [.list [v], .int k] (.val (.list (List.replicate k.toNat v))) := (Op.mulL h1 h0).toV
end Mine
end

/-! part M19 -/
section
open PySem PySem.W PyProof.Rows PySem.Calls
namespace Mine
variable {W : Wd} {n : Nat} {sc : Scope} {ρ : List Bd} {own : Str → Prop} {nms gl : List Str} {Post : Out → List Bd → Prop}
/-- growth, but for the list at al, that may change -/
structure OkA (W : Wd) (al : Addr) (f : FH) (h h' : Heap) : Prop where
  ext : ∀ a o, a ≠ al → h.get? a = some o → ¬ IsTab o → h'.get? a = some o
  tab : ∀ a o, h.get? a = some o → IsTab o → ∃ o', h'.get? a = some o' ∧ IsTab o'
  tabs : ∀ q ∈ W.tabs, Tab q.2.2 h' q.2.1
  sub : ∀ a o, f a = some o → h'.get? a = some o
theorem Look.fun {env : Env} {h : Heap} {x : Str} {o o' : Option Value} (a : Look env h x o) (b : Look env h x o') : o = o' := by
  rcases a with ⟨k, m, hn, hm⟩ | ⟨k, c, hc, hv⟩
  · rcases b with ⟨_, m', hn', hm'⟩ | ⟨k', _⟩
    · obtain ⟨o1, es1, ep1, g1, d1, _, f1⟩ := hn
      obtain ⟨o2, es2, ep2, g2, d2, _, f2⟩ := hn'
      rw [g1] at g2; cases g2
      rw [d1] at d2; cases d2
      rw [← hm, ← hm', ← f1, ← f2]
    · rcases k' with k' | k' <;> rw [k] at k' <;> cases k'
  · rcases b with ⟨k', _⟩ | ⟨_, c', hc', hv'⟩
    · rcases k with k | k <;> rw [k] at k' <;> cases k'
    · rw [hc] at hc'; cases hc'
      obtain ⟨o1, g1, d1⟩ := hv
      obtain ⟨o2, g2, d2⟩ := hv'
      rw [g1] at g2; cases g2
      rw [d1] at d2; cases d2; rfl
theorem St.chA {al : Addr} {env : Env} {A : Around} {P f : FH} {h h' : Heap} {vs : List Value} {m : Nat} {ρ' : List Bd} (st : St own W n sc ρ env A P f h) (k : OkA W al f h h') (hP : P al = none) (hf : f al = none) (ha : h.get? al = some (lobj vs m)) (hl : ρ'.length = ρ.length)
    (hb : ∀ (i : Nat) b' x o, ρ'[i]? = some b' → (vnames sc)[i]? = some x → Look env h x o → (∀ b, ρ[i]? = some b → BdOk env.locals P f h o b) → BdOk env.locals P f h' o b') : St own W n sc ρ' env A P f h' := by
  have hcell : ∀ c o, h.IsCell c o → c ≠ al := fun c o hc e => by subst e; exact cell_not_list hc _ _ ha
  have hL : env.locals ≠ al := by
    rintro rfl
    obtain ⟨mm, hn⟩ := st.ns
    exact ns_not_list hn _ _ ha
  have nk : ∀ mm, h.Ns env.locals mm → h'.Ns env.locals mm := fun mm hn => by
    obtain ⟨o, es, ep, ho, hd, r⟩ := hn
    exact ⟨o, es, ep, k.ext _ _ hL ho (fun ⟨ps, e, _⟩ => by subst e; cases hd), hd, r⟩
  have ck : ∀ c o, h.IsCell c o → h'.IsCell c o := fun c o hc => by
    have hne := hcell c o hc
    obtain ⟨ob, ho, hd⟩ := hc
    exact ⟨ob, k.ext _ _ hne ho (notTab_cell hd), hd⟩
  have lk : ∀ y o, Look env h y o → Look env h' y o := fun y o hl => by
    rcases hl with ⟨q, mm, hn, hm⟩ | ⟨q, c, hc, hv⟩
    · exact .inl ⟨q, mm, nk mm hn, hm⟩
    · exact .inr ⟨q, c, hc, ck c _ hv⟩
  refine { pre := ⟨st.pre.eok, st.pre.room, ⟨st.pre.base.le, st.pre.base.tf, k.tabs⟩, k.sub, ?_⟩, pin := ?_, ns := ?_, locP := st.locP, locF := st.locF, cell := ?_, apart := st.apart, len := by rw [hl]; exact st.len, capt := st.capt }
  · intro j b' e
    have hlt : j < ρ.length := by rw [← hl]; exact (List.getElem?_eq_some_iff.mp e).1
    obtain ⟨y, o, h1, h2, h3⟩ := st.pre.vars j _ (List.getElem?_eq_getElem hlt)
    refine ⟨y, o, h1, lk _ _ h2, hb j b' y o e (by rw [← st.pre.eok.scope]; exact h1) h2 fun b q => ?_⟩
    rw [List.getElem?_eq_getElem hlt] at q; cases q; exact h3
  · intro b o e
    have hne : b ≠ al := by rintro rfl; rw [hP] at e; cases e
    exact ⟨fun c => k.ext b o hne ((st.pin b o e).1 c) c, fun c => by obtain ⟨o', h1, h2⟩ := (st.pin b o e).2 c; exact k.tab b o' h1 h2⟩
  · obtain ⟨mm, hn⟩ := st.ns; exact ⟨mm, nk mm hn⟩
  · intro y c h0 h1 h2
    obtain ⟨b1, b2, o, b3⟩ := st.cell y c h0 h1 h2
    exact ⟨b1, b2, o, ck c o b3⟩
/-- a changed list of what a frame may see: the frame's own are plain -/
theorem St.chI {al : Addr} {env : Env} {A : Around} {P f : FH} {h h' : Heap} {vs : List Value} {m : Nat} (st : St own W n sc ρ env A P f h) (hi : ∀ b ∈ ρ, immOnly b = true) (k : OkA W al f h h') (hP : P al = none) (hf : f al = none) (ha : h.get? al = some (lobj vs m)) : St own W n sc ρ env A P f h' :=
  st.chA k hP hf ha rfl fun i b' x o e _ _ h3 => by
    have := h3 b' e
    have hb := hi b' (List.mem_of_getElem? e)
    cases b' with
    | unb => exact this
    | imm v => exact this
    | _ => cases hb
theorem callS' {fa : Addr} {fo : Obj} {fd : FuncData} {y : Str} {np pos cpos : Pos} {e : Expr} {rest : List Expr} {vs : List V} {env : Env} {A : Around} {P f : FH} {s : Shared} {Q : Flow → Shared → Prop} {E : Value → Shared → Prop}
    (hfa : s.heap.get? fa = some fo) (hd : fo.data = .func fd) (st : St own W n sc ρ env A P f s.heap) (hx : HE W n sc ρ (.Name y np) (.val (.obj fa))) (ha : HA W n sc ρ cpos (e :: rest) vs)
    (hc : ∀ f' h' tk xs, Ok W f f' s.heap h' → Reps f' vs xs → wpAny W.M A (call (.ref fa) xs) (fun _ s' => Q .next s') E { s with heap := h', toks := tk })
    (he : ∀ env, starEach (e :: rest) env = (false, eval e env) :: starEach rest env := by intro _; rfl) : wpAny W.M A (exec (.Expr (.Call (.Name y np) (e :: rest) [] cpos) pos) env) Q E s := by
  refine wpAny_Expr_any (hi := not_interactive st.pre.eok) (hs := by rfl) ?_
  refine Call_ (hx env A P f s _ E st.pre fun y f₁ h₁ tk₁ k₁ e₁ => ?_)
  obtain rfl : y = .ref fa := by cases e₁; rfl
  refine callWith_def hd (ha env A P f₁ { s with heap := h₁, toks := tk₁ } _ E (st.pre.step k₁) fun xs f₂ h₂ tk₂ k₂ r₂ => ?_) (he _)
  exact ⟨(k₁.trans k₂).ext _ _ hfa (fun ⟨ps, e, _⟩ => by rw [e] at hd; cases hd), hc f₂ h₂ tk₂ xs (k₁.trans k₂) r₂⟩
theorem callS {x qual : Str} {params : Arguments} {body : List Stmt} {scope : Scope} {fa : Addr} {cl : List (Str × Addr)} {y : Str} {np pos cpos : Pos} {e : Expr} {rest : List Expr} {vs : List V} {env : Env} {A : Around} {P f : FH} {s : Shared} {Q : Flow → Shared → Prop} {E : Value → Shared → Prop}
    (C : CloAt W x qual params body scope fa cl) (st : St own W n sc ρ env A P f s.heap) (hx : HE W n sc ρ (.Name y np) (.val (.obj fa))) (ha : HA W n sc ρ cpos (e :: rest) vs)
    (hc : ∀ f' h' tk xs, Ok W f f' s.heap h' → Reps f' vs xs → wpAny W.M A (call (.ref fa) xs) (fun _ s' => Q .next s') E { s with heap := h', toks := tk })
    (he : ∀ env, starEach (e :: rest) env = (false, eval e env) :: starEach rest env := by intro _; rfl) : wpAny W.M A (exec (.Expr (.Call (.Name y np) (e :: rest) [] cpos) pos) env) Q E s := by
  obtain ⟨⟨fo, doc, pm, cdv, ct, h1, h2, _⟩, _⟩ := C
  exact callS' (st.pre.bk _ _ h1) h2 st hx ha hc he
/-- x[i] = e, the list known by its address -/
theorem setAt {x : Str} {xp spos pos : Pos} {ie e : Expr} {k : Int} {v : V} {al : Addr} {vs : List Value} {m : Nat} {env : Env} {A : Around} {P f : FH} {s : Shared} {Q : Flow → Shared → Prop} {E : Value → Shared → Prop}
    (st : St own W n sc ρ env A P f s.heap) (he : HE W n sc ρ e (.val v)) (hx : HE W n sc ρ (.Name x xp) (.val (.obj al))) (hi : HE W n sc ρ ie (.val (.int k))) (ha : s.heap.get? al = some (lobj vs m)) (h0 : 0 ≤ k) (h1 : k < vs.length) (hsz : vs.length ≤ 1000000)
    (hQ : ∀ f' h' h'' tk y m', Ok W f f' s.heap h' → Rep f' v y → Heap.SameBut al h' h'' → h'.get? al = some (lobj vs m) → h''.get? al = some (lobj (vs.set k.toNat y) m') → Q .next { s with heap := h'', toks := tk })
    (hsw : ∀ env, swapsWith e (some (.Subscript (.Name x xp) ie spos)) pos.line env = pure false := by intro _; rfl) :
    wpAny W.M A (exec (.Assign [.Subscript (.Name x xp) ie spos] e pos) env) Q E s := by
  refine wpAny_Assign_Subscript (hs := hsw env) ?_
  refine he env A P f s _ E st.pre fun y f₁ h₁ tk₁ k₁ r₁ => ?_
  refine hx env A P f₁ { s with heap := h₁, toks := tk₁ } _ E (st.pre.step k₁) fun u f₂ h₂ tk₂ k₂ r₂ => ?_
  obtain rfl : u = .ref al := by cases r₂; rfl
  refine hi env A P f₂ { s with heap := h₂, toks := tk₂ } _ E ((st.pre.step k₁).step k₂) fun z f₃ h₃ tk₃ k₃ r₃ => ?_
  obtain ⟨t, rfl⟩ := Rep.int_inv r₃
  have kk := (k₁.trans k₂).trans k₃
  have ha₃ := kk.ext _ _ ha notTab_l
  have e63 : (2:Int)^63 = 9223372036854775808 := by decide
  refine ki_setAt (items := vs.toArray) (n := m) (s := { s with heap := h₃, toks := tk₃ }) ha₃ h0 (by omega) (by rw [List.size_toArray]; omega) ?_
  have e := IsL.update (h := h₃) (l := al) (items := vs.toArray) (n := m) ha₃ (fun xs => xs.setIfInBounds k.toNat y)
  obtain ⟨m', hg⟩ : ∃ m', (h₃.update al (Obj.mapSeq fun xs => xs.setIfInBounds k.toNat y)).get? al = some (lobj (vs.set k.toNat y) m') := ⟨_, by rw [e]; simp [lobj]; rfl⟩
  exact hQ f₃ h₃ _ tk₃ y m' kk (Rep.mono (k₂.trans k₃).le r₁) (Heap.SameBut.update ..) ha₃ hg
theorem Ok.toA {al : Addr} {f f' : FH} {h h' h'' : Heap} {vs : List Value} {m : Nat} (k : Ok W f f' h h') (b : Bs W f h) (hf : f' al = none) (ha : h'.get? al = some (lobj vs m)) (hs : Heap.SameBut al h' h'') : OkA W al f' h h'' where
  ext := fun a o hn e t => (hs.2 a hn).trans (k.ext a o e t)
  tab := fun a o e t => by
    obtain ⟨o', h1, h2⟩ := k.tab a o e t
    exact ⟨o', (hs.2 a (by rintro rfl; rw [ha] at h1; cases h1; exact notTab_l h2)).trans h1, h2⟩
  tabs := ((b.step k).same ⟨_, ha, .l⟩ hs).tabs
  sub := fun a o e => (hs.2 a (by rintro rfl; rw [hf] at e; cases e)).trans (k.sub a o e)
theorem OkA.le {al : Addr} {f f' : FH} {h h' : Heap} (k : OkA W al f' h h') (hle : Le f f') : OkA W al f h h' := ⟨k.ext, k.tab, k.tabs, fun a o e => k.sub a o (hle a o e)⟩
/-- pinned, but for one list -/
noncomputable def But (P : FH) (al : Addr) : FH := fun a => if a = al then none else P a
theorem But.le {P : FH} {al : Addr} : ∀ a o, But P al a = some o → P a = some o := fun a o e => by
  unfold But at e; split at e
  · cases e
  · exact e
/-- the whole of a frame whose pins were all but the list -/
theorem St.toA {al : Addr} {env : Env} {A : Around} {f f' : FH} {h h' : Heap} {vs : List Value} {m : Nat} (st : St own W n sc ρ env A (But h.get? al) f' h') (hle : Le f f') (ha : h.get? al = some (lobj vs m)) : OkA W al f h h' where
  ext := fun a o hn e t => (st.pin a o (by simp [But, hn, e])).1 t
  tab := fun a o e t => by
    by_cases hn : a = al
    · subst hn; rw [ha] at e; cases e; exact absurd t notTab_l
    · exact (st.pin a o (by simp [But, hn, e])).2 t
  tabs := st.pre.base.tabs
  sub := fun a o e => st.pre.sub a o (hle a o e)
theorem asgW {x : Str} {xp pos : Pos} {e : Expr} {rest : List Stmt} {v : V} {ρ' : List Bd} {i : Nat} {env : Env} {A : Around} {P f : FH} {s : Shared} {Q : Flow → Shared → Prop} {E : Value → Shared → Prop} (F : FC sc nms gl) (st : St (fun _ => True) W n sc ρ env A P f s.heap)
    (hfr : (sc.names.lookup x == some .free) = false) (h : HE W n sc ρ e (.val v)) (hp : Put nms ρ x (.imm v) ρ' i)
    (hn : ∀ f' h' tk, Gr P f f' → St (fun _ => True) W n sc ρ' env A P f' h' → wpAny W.M A (execs rest env) Q E { s with heap := h', toks := tk })
    (hsw : ∀ env, env.scope = sc → swapsWith e (some (.Name x xp)) pos.line env = pure false := by intro _ _; rfl) : wpAny W.M A (execs (.Assign [.Name x xp] e pos :: rest) env) Q E s := by
  obtain ⟨h1, rfl⟩ := hp.at
  refine wpAny_execs_cons (wpAny_Assign_Name (h env A P f s _ E st.pre fun y f' h' tk k r => ?_) (hsw env st.pre.eok.scope))
  refine (st.step k).store (s := { s with heap := h', toks := tk }) (by rw [F.nm]; exact h1) (.imm r) hfr (how := trivial) fun h'' tk' st' => ?_
  exact hn f' h'' tk' (k.gr st.pin) st'
theorem ifW {t : Expr} {body orelse : List Stmt} {pos : Pos} {c : Bool} {env : Env} {A : Around} {P f : FH} {s : Shared} {Q : Flow → Shared → Prop} {E : Value → Shared → Prop} (ht : HB W n sc ρ t c) (p : Pre W n sc ρ env A P f s.heap)
    (ha : c = true → ∀ f' h' tk, Ok W f f' s.heap h' → wpAny W.M A (execs body env) Q E { s with heap := h', toks := tk })
    (hb : c = false → ∀ f' h' tk, Ok W f f' s.heap h' → wpAny W.M A (execs orelse env) Q E { s with heap := h', toks := tk }) : wpAny W.M A (exec (.If t body orelse pos) env) Q E s := by
  refine wpAny_If (ht env A P f s _ E p fun y f₁ h₁ tk₁ k₁ r₁ => ?_)
  subst r₁
  cases y with
  | true => exact ha rfl f₁ h₁ tk₁ k₁
  | false => exact hb rfl f₁ h₁ tk₁ k₁
theorem asgLW {x : Str} {xp pos : Pos} {e : Expr} {rest : List Stmt} {xs : List V} {ρ' : List Bd} {i : Nat} {env : Env} {A : Around} {P f : FH} {s : Shared} {Q : Flow → Shared → Prop} {E : Value → Shared → Prop} (F : FC sc nms gl) (st : St (fun _ => True) W n sc ρ env A P f s.heap)
    (hfr : (sc.names.lookup x == some .free) = false) (h : HE W n sc ρ e (.freshL xs)) (hp : Put nms ρ x (.mutL xs) ρ' i)
    (hn : ∀ f' h' tk, Gr P f f' → St (fun _ => True) W n sc ρ' env A P f' h' → wpAny W.M A (execs rest env) Q E { s with heap := h', toks := tk })
    (hsw : ∀ env, env.scope = sc → swapsWith e (some (.Name x xp)) pos.line env = pure false := by intro _ _; rfl) : wpAny W.M A (execs (.Assign [.Name x xp] e pos :: rest) env) Q E s := by
  obtain ⟨h1, rfl⟩ := hp.at
  refine wpAny_execs_cons (wpAny_Assign_Name (h env A P f s _ E st.pre fun y f' h' tk k r => ?_) (hsw env st.pre.eok.scope))
  obtain ⟨a, vs, m, rfl, h1', h2, h3, h4⟩ := r
  refine (st.step k).store (s := { s with heap := h', toks := tk }) (by rw [F.nm]; exact h1) (b := .mutL xs) ⟨a, vs, m, rfl, h3, h4, h2, ?_⟩ hfr (how := trivial) fun h'' tk' st' => ?_
  · cases hp : P a with
    | none => rfl
    | some o' => obtain ⟨o'', h9⟩ := st.pin.there hp; rw [h9] at h1'; cases h1'
  · exact hn f' h'' tk' (k.gr st.pin) st'
end Mine
end

/-! part N1 -/
section
open PySem PySem.W PyProof.Rows PySem.Calls
namespace Mine
/-! numbers of digits -/
noncomputable def vd (N : Nat) : List Int → Int
  | [] => 0
  | d :: r => d + 2 ^ N * vd N r
theorem vd_append (N : Nat) : ∀ xs ys : List Int, vd N (xs ++ ys) = vd N xs + 2 ^ (N * xs.length) * vd N ys
  | [], ys => by simp [vd]
  | d :: r, ys => by
    simp only [List.cons_append, vd, vd_append N r ys, List.length_cons]
    rw [Nat.mul_add, Nat.mul_one, Int.mul_add, Nat.add_comm, Int.pow_add, Int.mul_assoc]; omega
noncomputable def digs (N : Nat) (ds : List Int) : Prop := ∀ d ∈ ds, 0 ≤ d ∧ d < 2 ^ N
theorem vd_bound (N : Nat) : ∀ ds : List Int, digs N ds → 0 ≤ vd N ds ∧ vd N ds < 2 ^ (N * ds.length)
  | [], _ => by simp [vd]
  | d :: r, h => by
    obtain ⟨h1, h2⟩ := vd_bound N r fun x hx => h x (List.mem_cons_of_mem _ hx)
    obtain ⟨h3, h4⟩ := h d List.mem_cons_self
    have hp : (0 : Int) < 2 ^ N := Int.pow_pos (by omega)
    simp only [vd, List.length_cons]
    refine ⟨Int.add_nonneg h3 (Int.mul_nonneg (Int.le_of_lt hp) h1), ?_⟩
    rw [Nat.mul_add, Nat.mul_one, Nat.add_comm, Int.pow_add]
    have : (2:Int) ^ N * vd N r ≤ 2 ^ N * (2 ^ (N * r.length) - 1) := Int.mul_le_mul_of_nonneg_left (by omega) (Int.le_of_lt hp)
    rw [Int.mul_sub] at this
    omega
theorem intBits_le {a : Int} {m : Nat} (h : a.natAbs < 2 ^ m) : Builtin.Int.intBits a ≤ m := by
  unfold Builtin.Int.intBits
  split
  · exact Nat.zero_le _
  · rename_i h0
    have : a.natAbs ≠ 0 := by simpa using h0
    exact (Nat.log2_lt this).mpr h
theorem intBits_nn {a : Int} {m : Nat} (h0 : 0 ≤ a) (h : a < 2 ^ m) : Builtin.Int.intBits a ≤ m := intBits_le (by
  have : (a.natAbs : Int) < ((2 ^ m : Nat) : Int) := by rw [Int.natAbs_of_nonneg h0]; simpa using h
  exact Int.ofNat_lt.mp this)
theorem lt_intBits {a : Int} (h0 : 0 ≤ a) : a < 2 ^ Builtin.Int.intBits a := by
  unfold Builtin.Int.intBits
  split
  · rename_i h; simp at h; omega
  · have := Nat.lt_log2_self (n := a.natAbs)
    have h2 : (a.natAbs : Int) < ((2 ^ (a.natAbs.log2 + 1) : Nat) : Int) := Int.ofNat_lt.mpr this
    rw [Int.natAbs_of_nonneg h0] at h2
    simpa using h2
theorem two_le {a b : Nat} (h : a ≤ b) : (2 : Int) ^ a ≤ 2 ^ b := by
  have := Int.ofNat_le.mpr (Nat.pow_le_pow_right (n := 2) (by omega) h)
  simpa using this
end Mine
end

/-! part N2 -/
section
open PySem PySem.W PyProof.Rows PySem.Calls
namespace Mine
noncomputable def digsOf (N : Nat) : Int → Nat → List Int
  | _, 0 => []
  | x, k + 1 => x % 2 ^ N :: digsOf N (x / 2 ^ N) k
theorem digsOf_len (N : Nat) : ∀ k x, (digsOf N x k).length = k
  | 0, _ => rfl
  | k + 1, x => by simp [digsOf, digsOf_len N k]
theorem digsOf_split (N : Nat) : ∀ k₁ k₂ x, digsOf N x (k₁ + k₂) = digsOf N x k₁ ++ digsOf N (x / 2 ^ (N * k₁)) k₂
  | 0, k₂, x => by simp [digsOf]
  | k₁ + 1, k₂, x => by
    rw [Nat.add_right_comm]
    simp only [digsOf, List.cons_append]
    rw [digsOf_split N k₁ k₂, Nat.mul_add, Nat.mul_one, Nat.add_comm (N * k₁) N, Int.pow_add, Int.ediv_ediv_of_nonneg (by exact Int.le_of_lt (Int.pow_pos (by omega)))]
theorem digsOf_mod (N : Nat) : ∀ k x, digsOf N (x % 2 ^ (N * k)) k = digsOf N x k
  | 0, _ => rfl
  | k + 1, x => by
    simp only [digsOf]
    have hp : (0 : Int) < 2 ^ N := Int.pow_pos (by omega)
    have hq : (0 : Int) < 2 ^ (N * k) := Int.pow_pos (by omega)
    have e : (2 : Int) ^ (N * (k + 1)) = 2 ^ N * 2 ^ (N * k) := by rw [Nat.mul_add, Nat.mul_one, Nat.add_comm, Int.pow_add]
    rw [e]
    congr 1
    · rw [Int.emod_emod_of_dvd _ (Int.dvd_mul_right ..)]
    · rw [← digsOf_mod N k (x / 2 ^ N)]
      congr 1
      have h1 : x % (2 ^ N * 2 ^ (N * k)) = x - 2 ^ N * (2 ^ (N * k) * (x / (2 ^ N * 2 ^ (N * k)))) := by rw [Int.emod_def, Int.mul_assoc]
      rw [h1, Int.sub_mul_ediv_left _ _ (by omega), Int.emod_def, Int.ediv_ediv_of_nonneg (Int.le_of_lt hp)]
theorem digsOf_ok (N : Nat) : ∀ k x, digs N (digsOf N x k)
  | 0, _ => fun d hd => by cases hd
  | k + 1, x => fun d hd => by
    have hp : (0 : Int) < 2 ^ N := Int.pow_pos (by omega)
    rcases List.mem_cons.mp hd with rfl | hd
    · exact ⟨Int.emod_nonneg _ (by omega), Int.emod_lt_of_pos _ hp⟩
    · exact digsOf_ok N k _ d hd
theorem vd_digsOf (N : Nat) : ∀ k x, vd N (digsOf N x k) = x % 2 ^ (N * k)
  | 0, x => by simp [digsOf, vd]
  | k + 1, x => by
    simp only [digsOf, vd]
    rw [vd_digsOf N k]
    have hp : (0 : Int) < 2 ^ N := Int.pow_pos (by omega)
    have e : (2 : Int) ^ (N * (k + 1)) = 2 ^ N * 2 ^ (N * k) := by rw [Nat.mul_add, Nat.mul_one, Nat.add_comm, Int.pow_add]
    rw [e, Int.emod_def x (2 ^ N), Int.emod_def (x / 2 ^ N), Int.emod_def x (2 ^ N * 2 ^ (N * k)), Int.ediv_ediv_of_nonneg (Int.le_of_lt hp), Int.mul_sub, Int.mul_assoc]
    omega
noncomputable def writeD (N : Nat) (xs : List Int) (l k : Nat) (x : Int) : List Int := xs.take l ++ digsOf N x k ++ xs.drop (l + k)
theorem writeD_len {N : Nat} {xs : List Int} {l k : Nat} {x : Int} (h : l + k ≤ xs.length) : (writeD N xs l k x).length = xs.length := by
  simp [writeD, digsOf_len]; omega
theorem writeD_two {N : Nat} {xs : List Int} {l k₁ k₂ : Nat} {x : Int} (h : l + k₁ + k₂ ≤ xs.length) : writeD N (writeD N xs l k₁ (x % 2 ^ (N * k₁))) (l + k₁) k₂ (x / 2 ^ (N * k₁)) = writeD N xs l (k₁ + k₂) x := by
  have hl : (xs.take l).length = l := by simp; omega
  have h2 : (xs.take l ++ digsOf N x k₁).length = l + k₁ := by rw [List.length_append, hl, digsOf_len]
  unfold writeD
  rw [digsOf_mod, digsOf_split, List.take_append_of_le_length (by omega), List.take_of_length_le (by omega)]
  rw [← List.append_assoc (xs.take l)]
  congr 1
  rw [List.drop_append, List.drop_eq_nil_of_le (by omega), List.nil_append, h2, List.drop_drop]
  congr 1
  omega
theorem or_high (a s : Nat) : a ||| (a / 2 ^ s * 2 ^ s) = a := by
  apply Nat.eq_of_testBit_eq
  intro i
  rw [Nat.testBit_or, Nat.mul_comm, Nat.testBit_two_pow_mul, Nat.testBit_div_two_pow]
  by_cases h : i < s
  · simp [Nat.not_le.mpr h]
  · have h' : s ≤ i := by omega
    simp [h', Nat.sub_add_cancel h']
theorem and_high (a s : Nat) : a &&& (a / 2 ^ s * 2 ^ s) = a / 2 ^ s * 2 ^ s := by
  apply Nat.eq_of_testBit_eq
  intro i
  rw [Nat.testBit_and, Nat.mul_comm, Nat.testBit_two_pow_mul, Nat.testBit_div_two_pow]
  by_cases h : i < s
  · simp [Nat.not_le.mpr h]
  · have h' : s ≤ i := by omega
    simp [h', Nat.sub_add_cancel h']
theorem bitOr_nat (a b : Nat) : Builtin.bitOr (a : Int) (b : Int) = ((a ||| b : Nat) : Int) := by
  unfold Builtin.bitOr Builtin.bitAnd Builtin.bitNot
  rw [decide_eq_false (by omega), decide_eq_false (by omega)]
  simp only
  rw [show (-(-(a : Int) - 1) - 1).toNat = a by omega, show (-(-(b : Int) - 1) - 1).toNat = b by omega]
  omega
theorem bitAnd_nat (a b : Nat) : Builtin.bitAnd (a : Int) (b : Int) = ((a &&& b : Nat) : Int) := by
  unfold Builtin.bitAnd
  rw [decide_eq_true (by omega), decide_eq_true (by omega)]
  simp
theorem bitXor_low {x : Int} (h0 : 0 ≤ x) (s : Nat) : Builtin.bitXor x (x.fdiv (2 ^ s) * 2 ^ s) = x % 2 ^ s := by
  obtain ⟨a, rfl⟩ := Int.eq_ofNat_of_zero_le h0
  have hp : (0 : Int) < 2 ^ s := Int.pow_pos (by omega)
  have e : (a : Int).fdiv (2 ^ s) * 2 ^ s = ((a / 2 ^ s * 2 ^ s : Nat) : Int) := by
    rw [Int.fdiv_eq_ediv_of_nonneg _ (Int.le_of_lt hp), Int.natCast_mul, Int.natCast_ediv]; simp
  have e2 : (a : Int) % 2 ^ s = ((a % 2 ^ s : Nat) : Int) := by rw [Int.natCast_emod]; simp
  rw [e, e2]
  unfold Builtin.bitXor
  rw [bitOr_nat, bitAnd_nat, or_high, and_high]
  have := Nat.div_add_mod a (2 ^ s)
  rw [Nat.mul_comm] at this
  omega
theorem fdiv_pow {x : Int} (s : Nat) : x.fdiv (2 ^ s) = x / 2 ^ s := Int.fdiv_eq_ediv_of_nonneg _ (Int.le_of_lt (Int.pow_pos (by omega)))
end Mine
end

/-! part M20 -/
section
open PySem PySem.W PyProof.Rows PySem.Calls
namespace Mine
variable {W : Wd} {n : Nat} {sc : Scope} {ρ : List Bd} {own : Str → Prop} {nms gl : List Str} {Post : Out → List Bd → Prop}
end Mine
end

/-! part M21 -/
section
open PySem PySem.W PyProof.Rows PySem.Calls
namespace Mine
variable {W : Wd} {n : Nat} {sc : Scope} {ρ : List Bd} {own : Str → Prop} {nms gl : List Str} {Post : Out → List Bd → Prop}
/-- a comprehension and what it makes -/
noncomputable def CompR (W : Wd) (n : Nat) (sc : Scope) (ρ : List Bd) (elt : Expr) (gens : List Comprehension) (scope : Scope) (cpos : Pos) (out : List V) : Prop :=
  ∃ g gs K caps, gens = g :: gs ∧ Framed K ∧ HIg W n sc ρ g.iter K ∧ CompOk scope sc caps ∧ (∀ i, some i ∈ caps → ∃ b, ρ[i]? = some b ∧ immOnly b = true) ∧
    CLg (ownOf scope) W n (relS scope sc) (rho0 ρ caps) [] (fun env D I => .compStart (.ListComp elt gens scope cpos) 0 (.ref I) (.ref D) env) K (fun _ a => a = out) ∧
    (∀ env x, foldedSetIterable g.iter env x = pure x) ∧ firstAsync gens = false
theorem CompR.he {elt : Expr} {gens : List Comprehension} {scope : Scope} {cpos : Pos} {out : List V} (h : CompR W n sc ρ elt gens scope cpos out) : HE W n sc ρ (.ListComp elt gens scope cpos) (.freshL out) := by
  obtain ⟨g, gs, K, caps, rfl, hfm, hi, ok, him, hc, hs, ha⟩ := h
  exact HE.compG hfm hi ok him hc hs ha
theorem CompR.hv {elt : Expr} {gens : List Comprehension} {scope : Scope} {cpos : Pos} {out : List V} (h : CompR W n sc ρ elt gens scope cpos out) : HE W n sc ρ (.ListComp elt gens scope cpos) (.val (.list out)) := h.he.toV
theorem CompR.cast {elt : Expr} {gens : List Comprehension} {scope : Scope} {cpos : Pos} {out out' : List V} (h : CompR W n sc ρ elt gens scope cpos out) (e : out = out') : CompR W n sc ρ elt gens scope cpos out' := e ▸ h
/-- x = [..], the list frozen at once -/
theorem HS.asgComp {x : Str} {xp pos : Pos} {elt : Expr} {gens : List Comprehension} {scope : Scope} {cpos : Pos} {out : List V} {rest : List Stmt} {ρ' : List Bd} {i : Nat} (F : FF sc nms gl) (h : CompR W n sc ρ elt gens scope cpos out)
    (hp : Put nms ρ x (.imm (.list out)) ρ' i) (hn : HS W n sc ρ' rest Post) (ho : oneL ρ i = true)
    (hsw : ∀ env, env.scope = sc → swapsWith (.ListComp elt gens scope cpos) (some (.Name x xp)) pos.line env = pure true := by intro env e; cases env; cases e; rfl) :
    HS W n sc ρ (.Assign [.Name x xp] (.ListComp elt gens scope cpos) pos :: rest) Post := by
  obtain ⟨g, gs, K, caps, rfl, hfm, hi, ok, him, hc, hs, ha⟩ := h
  obtain ⟨hx, rfl⟩ := hp.at
  refine HS.step (HT.assignCompG i hfm hi ok him hc (by rw [F.nm]; exact hx) (nf_of F hx) hsw hs ha) ?_
  by_cases hlt : i < ρ.length
  · refine HS.freezeL i (xs := out) (by rw [List.getElem?_set_self hlt]) (by rw [List.set_set]; exact hn) fun j ys hj => ?_
    rw [List.getElem?_set_ne (Ne.symm hj)]
    exact oneL_at ho j ys hj
  · intro env A P f s Q E st
    exfalso
    have h1 := st.len
    rw [List.length_set, F.nm] at h1
    have := (List.getElem?_eq_some_iff.mp hx).1
    omega
/-- one clause over the images of a list -/
theorem CompR.mapA {α : Type} {elt iter : Expr} {x : Str} {xp cpos : Pos} {ifs : List Expr} {scope : Scope} {as : List α} {fv : α → V} {caps : List (Option Nat)} (ix : Nat) (c : α → Bool) (g : α → V) (hi : HI W n sc ρ iter (as.map fv)) (ok : CompOk scope sc caps) (him : ∀ i, some i ∈ caps → ∃ b, ρ[i]? = some b ∧ immOnly b = true)
    (R : Bd → List Bd) (hR : ∀ b, (rho0 ρ caps).set ix b = R b) (hlen : as.length ≤ 1000000) (ht : ∀ v ∈ as, HTests W n (relS scope sc) (R (.imm (fv v))) ifs (c v)) (he : ∀ v ∈ as, c v = true → HE W n (relS scope sc) (R (.imm (fv v))) elt (.val (g v)))
    (how : ownOf scope x) (hx : (vnames (relS scope sc))[ix]? = some x) (hfr : ((relS scope sc).names.lookup x == some .free) = false)
    (hs : ∀ env x, foldedSetIterable iter env x = pure x := by intro _ _; rfl) :
    CompR W n sc ρ elt [⟨.Name x xp, iter, ifs, 0⟩] scope cpos ((as.filter c).map g) := by
  refine ⟨⟨.Name x xp, iter, ifs, 0⟩, _, _, _, rfl, Wk1.framed, hi, ok, him, CL.start (g := ⟨.Name x xp, iter, ifs, 0⟩) isComp_list rfl rfl ?_, hs, rfl⟩
  refine CL.loop (tgt := .Name x xp) isComp_list (form1 (elt := elt) (x := x) (xp := xp) (iter := iter) (ifs := ifs) (scope := scope) (cpos := cpos)) (fun i r acc => (r = rho0 ρ caps ∨ ∃ u, r = (rho0 ρ caps).set ix (.imm u)) ∧ acc = ((as.take i).filter c).map g ∧ i ≤ as.length) ix ⟨.inl rfl, by simp, Nat.zero_le _⟩ ?_ ?_ how hx hfr
  · rintro i w r acc hw ⟨hr, hacc, hi⟩
    rw [List.getElem?_map] at hw
    obtain ⟨v, hv, rfl⟩ := Option.map_eq_some_iff.mp hw
    have hset : r.set ix (.imm (fv v)) = (rho0 ρ caps).set ix (.imm (fv v)) := by
      rcases hr with rfl | ⟨u, rfl⟩
      · rfl
      · rw [List.set_set]
    rw [hset, hR]
    have hm : v ∈ as := List.mem_of_getElem? hv
    have hlt := (List.getElem?_eq_some_iff.mp hv).1
    have htk : as.take (i + 1) = as.take i ++ [v] := by rw [List.take_add_one, hv]; rfl
    refine CX.turn (ht v hm) (fun hc => CX.emit (he v hm hc) ?_ ?_) (fun hc => ?_)
    · rw [hacc, List.length_map]
      exact Nat.le_trans (List.length_filter_le ..) (by rw [List.length_take]; omega)
    · exact ⟨.inr ⟨_, (hR _).symm⟩, by rw [hacc, htk, List.filter_append, List.map_append]; simp [hc], by omega⟩
    · exact ⟨.inr ⟨_, (hR _).symm⟩, by rw [hacc, htk, List.filter_append, List.map_append]; simp [hc], by omega⟩
  · rintro r acc ⟨_, hacc, _⟩
    rw [hacc, List.length_map, List.take_length]
/-- two clauses -/
theorem CompR.mapAB {α β : Type} {elt iter iter' : Expr} {x x' : Str} {xp xp' cpos : Pos} {ifs ifs' : List Expr} {scope : Scope} {as : List α} {bs : α → List β} {fa : α → V} {fb : α → β → V} {caps : List (Option Nat)} (ix jx : Nat) (c : α → Bool) (c' : α → β → Bool) (g : α → β → V)
    (hi : HI W n sc ρ iter (as.map fa)) (ok : CompOk scope sc caps) (him : ∀ i, some i ∈ caps → ∃ b, ρ[i]? = some b ∧ immOnly b = true) (hne : ix ≠ jx)
    (R : Bd → Bd → List Bd) (hR : ∀ b b', ((rho0 ρ caps).set jx b').set ix b = R b b') (hlen : as.length ≤ 1000) (hlen' : ∀ a ∈ as, (bs a).length ≤ 1000)
    (ht : ∀ v ∈ as, ∀ b, HTests W n (relS scope sc) (R (.imm (fa v)) b) ifs (c v))
    (hi' : ∀ v ∈ as, c v = true → ∀ b, HI W n (relS scope sc) (R (.imm (fa v)) b) iter' ((bs v).map (fb v)))
    (ht' : ∀ v ∈ as, ∀ u ∈ bs v, HTests W n (relS scope sc) (R (.imm (fa v)) (.imm (fb v u))) ifs' (c' v u))
    (he : ∀ v ∈ as, ∀ u ∈ bs v, c' v u = true → HE W n (relS scope sc) (R (.imm (fa v)) (.imm (fb v u))) elt (.val (g v u)))
    (how : ownOf scope x) (hx : (vnames (relS scope sc))[ix]? = some x) (hfr : ((relS scope sc).names.lookup x == some .free) = false)
    (how' : ownOf scope x') (hx' : (vnames (relS scope sc))[jx]? = some x') (hfr' : ((relS scope sc).names.lookup x' == some .free) = false)
    (hs : ∀ env x, foldedSetIterable iter env x = pure x := by intro _ _; rfl) (hs' : ∀ env x, foldedSetIterable iter' env x = pure x := by intro _ _; rfl) :
    CompR W n sc ρ elt [⟨.Name x xp, iter, ifs, 0⟩, ⟨.Name x' xp', iter', ifs', 0⟩] scope cpos ((as.filter c).flatMap fun v => ((bs v).filter (c' v)).map (g v)) := by
  have hset : ∀ (b b' : Bd) (k : Bd), ((((rho0 ρ caps).set jx b).set ix b').set ix k) = ((rho0 ρ caps).set jx b).set ix k := fun b b' k => by rw [List.set_set]
  have hset' : ∀ (b b' k : Bd), ((((rho0 ρ caps).set jx b).set ix b').set jx k) = ((rho0 ρ caps).set jx k).set ix b' := fun b b' k => by
    rw [List.set_comm _ _ hne, List.set_set]
  have hself : rho0 ρ caps = (rho0 ρ caps).set jx (((rho0 ρ caps)[jx]?).getD .unb) := by
    by_cases h : jx < (rho0 ρ caps).length
    · rw [List.getElem?_eq_getElem h]; simp
    · rw [List.set_eq_of_length_le (by omega)]
  let J : List Bd → Prop := fun r => ∃ b, r = (rho0 ρ caps).set jx b ∨ ∃ u, r = ((rho0 ρ caps).set jx b).set ix u
  have hJ0 : J (rho0 ρ caps) := ⟨_, .inl hself⟩
  have hlenf : ∀ l : List α, (∀ a ∈ l, a ∈ as) → (l.flatMap fun v => ((bs v).filter (c' v)).map (g v)).length ≤ 1000 * l.length := by
    intro l
    induction l with
    | nil => intro _; simp
    | cons a l ih =>
      intro h
      have h1 := hlen' a (h a List.mem_cons_self)
      have h2 := ih fun b hb => h b (List.mem_cons_of_mem _ hb)
      have h3 := List.length_filter_le (c' a) (bs a)
      rw [List.flatMap_cons, List.length_append, List.length_map, List.length_cons]
      omega
  refine ⟨⟨.Name x xp, iter, ifs, 0⟩, _, _, _, rfl, Wk1.framed, hi, ok, him, CL.start (g := ⟨.Name x xp, iter, ifs, 0⟩) isComp_list rfl rfl ?_, hs, rfl⟩
  refine CL.loop (tgt := .Name x xp) isComp_list (form2a (elt := elt) (x := x) (xp := xp) (iter := iter) (ifs := ifs) (tgt' := .Name x' xp') (iter' := iter') (ifs' := ifs') (scope := scope) (cpos := cpos)) (fun i r acc => J r ∧ acc = ((as.take i).filter c).flatMap (fun v => ((bs v).filter (c' v)).map (g v)) ∧ i ≤ as.length) ix ⟨hJ0, by simp, Nat.zero_le _⟩ ?_ ?_ how hx hfr
  · rintro i w r acc hw ⟨hr, hacc, hi₀⟩
    rw [List.getElem?_map] at hw
    obtain ⟨v, hv, rfl⟩ := Option.map_eq_some_iff.mp hw
    obtain ⟨b₀, hb₀⟩ : ∃ b, r.set ix (.imm (fa v)) = ((rho0 ρ caps).set jx b).set ix (.imm (fa v)) := by
      obtain ⟨b, rfl | ⟨u, rfl⟩⟩ := hr
      · exact ⟨b, rfl⟩
      · exact ⟨b, hset _ _ _⟩
    rw [hb₀, hR]
    have hm : v ∈ as := List.mem_of_getElem? hv
    have hlt := (List.getElem?_eq_some_iff.mp hv).1
    have htk : as.take (i + 1) = as.take i ++ [v] := by rw [List.take_add_one, hv]; rfl
    refine CX.turn (ht v hm b₀) (fun hc => ?_) (fun hc => ?_)
    · refine CX.nest (g := ⟨.Name x' xp', iter', ifs', 0⟩) (hi' v hm hc b₀) ?_ hs'
      refine CL.start (d := 1) (g := ⟨.Name x' xp', iter', ifs', 0⟩) isComp_list rfl rfl ?_
      refine CL.loop (tgt := .Name x' xp') isComp_list (form2b (elt := elt) (g := ⟨.Name x xp, iter, ifs, 0⟩) (x := x') (xp := xp') (iter := iter') (ifs := ifs') (scope := scope) (cpos := cpos))
        (fun j r' acc' => (∃ b, r' = ((rho0 ρ caps).set jx b).set ix (.imm (fa v))) ∧ acc' = acc ++ (((bs v).take j).filter (c' v)).map (g v) ∧ j ≤ (bs v).length) jx ⟨⟨b₀, (hR _ _).symm⟩, by simp, Nat.zero_le _⟩ ?_ ?_ how' hx' hfr'
      · rintro j w' r' acc' hw' ⟨⟨b, rfl⟩, hacc', hj⟩
        rw [List.getElem?_map] at hw'
        obtain ⟨u, hu, rfl⟩ := Option.map_eq_some_iff.mp hw'
        rw [hset', hR]
        have hmu : u ∈ bs v := List.mem_of_getElem? hu
        have hltu := (List.getElem?_eq_some_iff.mp hu).1
        have htku : (bs v).take (j + 1) = (bs v).take j ++ [u] := by rw [List.take_add_one, hu]; rfl
        refine CX.turn (ht' v hm u hmu) (fun hc' => CX.emit (he v hm u hmu hc') ?_ ?_) (fun hc' => ?_)
        · have h1 := hlenf ((as.take i).filter c) (fun a ha => List.mem_of_mem_take (List.mem_filter.mp ha).1)
          have h2 := List.length_filter_le c (as.take i)
          have h3 := List.length_filter_le (c' v) ((bs v).take j)
          have h4 := hlen' v hm
          rw [List.length_take] at h2 h3
          rw [hacc', hacc, List.length_append, List.length_map]
          omega
        · exact ⟨⟨_, (hR _ _).symm⟩, by rw [hacc', htku, List.filter_append, List.map_append, List.append_assoc]; simp [hc'], by omega⟩
        · exact ⟨⟨_, (hR _ _).symm⟩, by rw [hacc', htku, List.filter_append, List.map_append]; simp [hc'], by omega⟩
      · rintro r' acc' ⟨⟨b, rfl⟩, hacc', _⟩
        refine ⟨⟨b, .inr ⟨_, rfl⟩⟩, ?_, by omega⟩
        rw [hacc', List.length_map, List.take_length, hacc, htk, List.filter_append, List.flatMap_append]
        simp [hc]
    · refine ⟨⟨b₀, .inr ⟨_, (hR _ _).symm⟩⟩, ?_, by omega⟩
      rw [hacc, htk, List.filter_append, List.flatMap_append]
      simp [hc]
  · rintro r acc ⟨_, hacc, _⟩
    rw [hacc, List.length_map, List.take_length]
theorem HE.fc {e : Expr} {r : RT} (G : FC sc nms gl) (h : FC sc nms gl → HE W n sc ρ e r) : HE W n sc ρ e r := h G
theorem HTests.fc {ifs : List Expr} {b : Bool} (G : FC sc nms gl) (h : FC sc nms gl → HTests W n sc ρ ifs b) : HTests W n sc ρ ifs b := h G
theorem HI.fc {e : Expr} {vs : List V} (G : FC sc nms gl) (h : FC sc nms gl → HI W n sc ρ e vs) : HI W n sc ρ e vs := h G
/-- no name of what the comprehension captures is being changed -/
theorem immAll {caps : List (Option Nat)} (h : (caps.all fun c => match c with | some i => (match ρ[i]? with | some b => immOnly b | none => false) | none => true) = true) : ∀ i, some i ∈ caps → ∃ b, ρ[i]? = some b ∧ immOnly b = true := fun i hi => by
  have := List.all_eq_true.mp h _ hi
  dsimp only at this
  split at this
  · exact ⟨_, ‹_›, this⟩
  · cases this
end Mine
end

/-! part N6 -/
section
open PySem PySem.W PyProof.Rows PySem.Calls
namespace Mine
theorem char_lt (c : Char) : c.toNat < 0x110000 := by
  have := c.valid
  unfold UInt32.isValidChar Nat.isValidChar at this
  show c.val.toNat < _
  rcases this with h | h <;> omega
theorem strOk_of (s : String) : PyData.strOk (Str.ofString s) = true := by
  unfold PyData.strOk
  rw [Str.ofString_eq_toList]
  rw [Array.all_eq_true]
  intro i hi
  simp only [decide_eq_true_eq]
  simp only [List.getElem_toArray, List.getElem_map]
  exact char_lt _
noncomputable def decV (z : Int) : V := .str (Str.ofString (toString z))
theorem log2_of_bits {a : Int} {m : Nat} (h : Builtin.Int.intBits a ≤ m) (hm : m ≤ 1920) : a.natAbs.log2 < 1920 := by
  unfold Builtin.Int.intBits at h
  split at h
  · rename_i e
    have : a = 0 := by simpa using e
    subst this
    decide
  · omega
variable {W : Wd} {n : Nat} {sc : Scope} {ρ : List Bd} {nms gl : List Str} {Post : Out → List Bd → Prop}
/-- lists of written ints -/
theorem Op.neLZ {xs ys : List Int} (h : xs = ys) : Op W n (op2 (compareOp .NotEq)) [.list (xs.map decV), .list (ys.map decV)] (.val (.bool false)) := by
  subst h
  have := Op.neLS (W := W) (n := n) (xs := xs.map fun z => Str.ofString (toString z)) (ys := xs.map fun z => Str.ofString (toString z)) (fun x hx => by obtain ⟨z, _, rfl⟩ := List.mem_map.mp hx; exact strOk_of _) (fun x hx => by obtain ⟨z, _, rfl⟩ := List.mem_map.mp hx; exact strOk_of _)
  rw [List.map_map] at this
  refine Eq.mp ?_ this
  simp only [decide_true, Bool.not_true]
  rfl
theorem Op.eqLZ {xs ys : List Int} (h : xs = ys) : Op W n (op2 (compareOp .Eq)) [.list (xs.map decV), .list (ys.map decV)] (.val (.bool true)) := by
  subst h
  have := Op.eqLS (W := W) (n := n) (xs := xs.map fun z => Str.ofString (toString z)) (ys := xs.map fun z => Str.ofString (toString z)) (fun x hx => by obtain ⟨z, _, rfl⟩ := List.mem_map.mp hx; exact strOk_of _) (fun x hx => by obtain ⟨z, _, rfl⟩ := List.mem_map.mp hx; exact strOk_of _)
  rw [List.map_map] at this
  refine Eq.mp ?_ this
  simp only [decide_true, Bool.not_true]
  rfl
theorem OpC.strZ {a : Int} (h : Builtin.Int.intBits a ≤ 1900) : Op W n (fun as => call (.type "str") as) [.int a] (.val (decV a)) := OpC.strI (log2_of_bits h (by decide))
theorem sz_le {a : Int} {m k : Nat} (h : Builtin.Int.intBits a ≤ m) (hm : m ≤ k) : Builtin.Int.intBits a ≤ k := Nat.le_trans h hm
theorem sz_pow {a : Int} {m : Nat} {b : Int} (h : Builtin.Int.intBits a ≤ m) (hm : (m : Int) * b ≤ 2 ^ 27) (hb : 0 ≤ b) : (Builtin.Int.intBits a : Int) * b ≤ 2 ^ 27 :=
  Int.le_trans (Int.mul_le_mul_of_nonneg_right (Int.ofNat_le.mpr h) hb) hm
end Mine
end

/-! part M22 -/
section
open PySem PySem.W PyProof.Rows PySem.Calls
namespace Mine
variable {W : Wd} {n : Nat} {sc : Scope} {ρ : List Bd} {own : Str → Prop} {nms gl : List Str} {Post : Out → List Bd → Prop}
/-! pairs drawn: for k, n in enumerate(..) -/
noncomputable abbrev Wk2 (W : Wd) (vs : List (V × V)) : WkT := fun I fp wr f' S => ∃ (Pt : Nat → Array Value → Prop) (Mid : Nat → Addr → Heap → Prop), (∀ A' : Around, A'.handled = none → WalksT W.prog W.w A' I fp wr vs.length Pt S Mid) ∧
  ∀ i vals, Pt i vals → ∃ u v a b, vs[i]? = some (u, v) ∧ vals = #[a, b] ∧ Rep f' u a ∧ Rep f' v b
theorem Wk2.framed {vs : List (V × V)} : Framed (Wk2 W vs) := fun I fp wr f' S k => let ⟨Pt, Mid, h, _⟩ := k; (h callerA rfl).frame
theorem form1T {elt : Expr} {es : List Expr} {k : Nat} {tp : Pos} {iter : Expr} {ifs : List Expr} {scope : Scope} {cpos : Pos} (env : Env) (D I : Addr) :
    compTurn (.ListComp elt [⟨.Tuple es k tp, iter, ifs, 0⟩] scope cpos) 0 (.ref I) (.ref D) env = (standAt iter.pos >>= fun _ => pyNext (.ref I) >>= fun r => match r with
      | none => pure (.done .next)
      | some v => letOwnedTupleGo (.Tuple es k tp) (.ref I) v >>= fun _ => assign (.Tuple es k tp) env v >>= fun _ => turnL ifs (emitL elt) env D >>= fun _ => again (.compLoop (.ListComp elt [⟨.Tuple es k tp, iter, ifs, 0⟩] scope cpos) 0 (.ref I) (.ref D) env)) := by
  rw [compTurn_list]
  refine congrArg (fun k => standAt iter.pos >>= k) (funext fun _ => congrArg (fun k => pyNext (.ref I) >>= k) (funext fun r => ?_))
  cases r with
  | none => rfl
  | some v =>
    show (letOwnedTupleGo (.Tuple es k tp) (.ref I) v >>= fun _ => _) = _
    refine congrArg (fun k => _ >>= k) (funext fun _ => ?_)
    refine congrArg (fun q => assign (.Tuple es k tp) env v >>= q) (funext fun _ => ?_)
    unfold turnL
    rw [bind_assoc]
    refine congrArg (fun k => _ >>= k) (funext fun ok => ?_)
    cases ok with
    | true => rfl
    | false => rfl
theorem CLg.startT {elt : Expr} {gens : List Comprehension} {scope : Scope} {cpos : Pos} {d : Nat} {g : Comprehension} {vs : List (V × V)} {acc : List V} {Post : List Bd → List V → Prop} (hg : gens[d]? = some g) (ha : (g.is_async != 0) = false)
    (h : CLg own W n sc ρ acc (fun env D I => .compLoop (.ListComp elt gens scope cpos) d (.ref I) (.ref D) env) (Wk2 W vs) Post) :
    CLg own W n sc ρ acc (fun env D I => .compStart (.ListComp elt gens scope cpos) d (.ref I) (.ref D) env) (Wk2 W vs) Post := by
  intro env A P f D o s R I fp wr S h₀ f₁ st hP hf hD hacc hDw hcap r hp hfw hle hR
  have W₁ : ∀ (s : Shared) (Q : Value → Shared → Prop) (E : Value → Shared → Prop), S 0 s.heap → Q (.ref I) s → wpAny W.M A (pyIter (.ref I)) Q E s := by
    obtain ⟨Pt, Mid, h, _⟩ := r.walk
    exact (h A st.pre.room.handled).self 0
  have key := h env A P f D o s R I fp wr S h₀ f₁ st hP hf hD hacc hDw hcap r hp hfw hle hR
  refine codeAny_of_tree ?_
  show wpAny (model W.prog W.w) A ((compStart (.ListComp elt gens scope cpos) d (.ref I) (.ref D) env).onRaise (fun x => do noteFrame x env; standAt theWindowsPlace)) _ _ s
  refine wpAny_notedAt ?_
  unfold compStart
  have e1 : (clausesOf (.ListComp elt gens scope cpos))[d]? = some g := hg
  rw [e1]
  simp only [Option.elim_some, ha, Bool.false_eq_true, if_false]
  refine wpAny_bind (wpAny_askSetting (wpAny_ite ?_))
  split
  · exact wpAny_pure (And.intro rfl key)
  · refine wpAny_bind (wpAny_rule ?_)
    exact wpAny_bind (wpAny_standAt (wpAny_bind (W₁ s _ _ r.start (wpAny_pure (And.intro rfl key)))))
theorem CLg.loopT {elt iter : Expr} {scope : Scope} {cpos : Pos} {x y : Str} {xp yp tp : Pos} {kk : Nat} {ifs : List Expr} {vs : List (V × V)} {acc : List V} {Post : List Bd → List V → Prop}
    (Inv : Nat → List Bd → List V → Prop) (ix jx : Nat) (h0 : Inv 0 ρ acc)
    (hturn : ∀ i u v r acc, vs[i]? = some (u, v) → Inv i r acc → CX own W n sc ((r.set ix (.imm u)).set jx (.imm v)) acc (turnL ifs (emitL elt)) (Inv (i + 1)))
    (hend : ∀ r acc, Inv vs.length r acc → Post r acc) (how : own x) (how' : own y)
    (hx : (vnames sc)[ix]? = some x) (hfr : (sc.names.lookup x == some .free) = false) (hx' : (vnames sc)[jx]? = some y) (hfr' : (sc.names.lookup y == some .free) = false) :
    CLg own W n sc ρ acc (fun env D I => .compLoop (.ListComp elt [⟨.Tuple [.Name x xp, .Name y yp] kk tp, iter, ifs, 0⟩] scope cpos) 0 (.ref I) (.ref D) env) (Wk2 W vs) Post := by
  intro env A P f D o s R I fp wr S h₀ f₁ st hP hf hD hacc hDw hcap r hp hfw hle hR
  obtain ⟨Pt, Mid, W₀, hPt⟩ := r.walk
  have W₁ := W₀ A st.pre.room.handled
  refine codeAny_loop rfl (fun k s' => ∃ i ρ' acc' f' h' tk o', s' = { s with heap := h', toks := tk } ∧ St own W n sc ρ' env A (Pw (Pw P wr h') [D] h') f' h' ∧ Gr P f f' ∧ (∀ b ∈ wr, f' b = none) ∧ f' D = none ∧ h'.get? D = some o' ∧ accL.R f' acc' o' ∧ S i h' ∧ Inv i ρ' acc' ∧ i ≤ vs.length ∧ k = vs.length + 1 - i) ?_ (vs.length + 1)
    ⟨0, ρ, acc, f, s.heap, s.toks, o, rfl, st, Gr.refl _ _, hfw, hf, hD, hacc, r.start, h0, Nat.zero_le _, rfl⟩
  rintro k s' ⟨i, ρ', acc', f', h', tk, o', rfl, st', g', hf', hfD, hD', hacc', hS, hI, hle', rfl⟩
  dsimp only
  show wpAny (model W.prog W.w) A ((compTurn (.ListComp elt [⟨.Tuple [.Name x xp, .Name y yp] kk tp, iter, ifs, 0⟩] scope cpos) 0 (.ref I) (.ref D) env).onRaise (fun x => do noteFrame x env; theTreesLotGoes x)) _ _ _
  refine wpAny_noted ?_
  rw [form1T]
  refine wpAny_bind (wpAny_standAt (wpAny_bind ?_))
  have swap : ∀ hh : Heap, Pw (Pw P wr hh) [D] hh = Pw (Pw P [D] hh) wr hh := fun hh => by
    funext b
    unfold Pw
    by_cases h1 : b ∈ wr <;> by_cases h2 : b ∈ [D] <;> simp [h1, h2]
  have hpD : ∀ (hh : Heap), ∀ b ∈ wr, Pw P [D] hh b = none := fun hh b hb => by
    have : b ∉ [D] := fun hm => hDw (List.mem_singleton.mp hm ▸ hb)
    simp [Pw, this, hp b hb]
  have hcapD : ∀ hh : Heap, ∀ x c, (own x → env.kindOf x ≠ some .cell) → env.cells.lookup x = some c → Pw P [D] hh c ≠ none := fun hh x c h1 h2 => by
    have h3 := hcap x c h1 h2
    have : c ∉ [D] := fun hm => h3 (List.mem_singleton.mp hm ▸ hP)
    simpa [Pw, this] using h3
  by_cases hlt : i < vs.length
  · refine W₁.item i _ _ _ hlt hS fun T vals h₂' tk₂ hpt hTs hT hMid hk₂' => ?_
    obtain ⟨u, v, a, b, hv, rfl, hru, hrv⟩ := hPt i vals hpt
    refine wpAny_bind (W₁.go _ _ _ i T { s with heap := h₂', toks := tk₂ } _ _ hMid fun h₂ hS₂ hk₂'' => ?_)
    have hTw : T ∉ wr := W₁.apart i T h₂' hMid
    have hk₂ : ∀ b o, b ∉ wr → h'.get? b = some o → h₂.get? b = some o := fun b o hb e => hk₂'' b o hb (hk₂' b o hb e)
    have hT₂ : h₂.IsTuple T #[a, b] := by
      obtain ⟨o, ho, r⟩ := hT
      exact ⟨o, hk₂'' T o hTw ho, r⟩
    rw [swap] at st'
    have hD₂ : h₂.get? D = some o' := hk₂ D _ hDw hD'
    have eD : Pw P [D] h' = Pw P [D] h₂ := by
      funext b; unfold Pw; split
      · rename_i hb; rw [List.mem_singleton.mp hb, hD', hD₂]
      · rfl
    have st₂ := st'.moved hk₂ hf' (r.there i h' hS) (hpD h') (hcapD h')
    rw [eD, ← swap] at st₂
    have hlef := hle.trans g'.le
    refine wpAny_bind (wpAny_assign_Tuple (s := { s with heap := h₂, toks := tk₂ }) st.pre.room.handled hT₂ rfl rfl fun h₅ e₅ => ?_)
    have up₅ := extBut_new e₅
    have st₅ : St own W n sc ρ' env A (Pw (Pw P wr h₂) [D] h₂) f' h₅ := st₂.ext up₅
    show wpAny W.M A (holding _ (assign (.Name x xp) env a) >>= fun _ => (holding _ (assign (.Name y yp) env b) >>= fun _ => _)) _ _ _
    refine wpAny_bind (wpAny_holding (wpAny_assign_Name (st₅.store (s := { s with heap := h₅, toks := tk₂ }) hx (BdOk.imm (hru.mono hlef)) hfr (how := how) fun h₆ tk₆ st₆ => ?_)))
    refine wpAny_bind (wpAny_holding (wpAny_assign_Name (st₆.store (s := { s with heap := h₆, toks := tk₆ }) hx' (BdOk.imm (hrv.mono hlef)) hfr' (how := how') fun h₃ tk₃ st₃ => ?_)))
    refine wpAny_pure ?_
    have hD₃ : h₃.get? D = some o' := (st₃.pin D o' (by simp [Pw, hD₂])).1 (accL.nf hacc').tab
    have keep₃ : ∀ b ∈ wr, h₃.get? b = h₂.get? b := fun b hb => by
      obtain ⟨o, ho, hnf⟩ := r.there (i + 1) h₂ hS₂ b hb
      have : b ∉ [D] := fun hm => hDw (List.mem_singleton.mp hm ▸ hb)
      rw [ho]; exact (st₃.pin b o (by simp [Pw, this, hb, ho])).1 hnf.tab
    have eP : Pw P wr h₃ = Pw P wr h₂ := by
      funext b; unfold Pw; split
      · rename_i hb; exact keep₃ b hb
      · rfl
    have eP' : Pw (Pw P wr h₂) [D] h₂ = Pw (Pw P wr h₂) [D] h₃ := by
      funext b; unfold Pw; split
      · rename_i hb; rw [List.mem_singleton.mp hb, hD₂, hD₃]
      · rfl
    rw [eP'] at st₃
    have hPwD : Pw P wr h₂ D = none := by simp [Pw, hDw, hP]
    refine wpAny_bind (hturn i u v ρ' acc' hv hI env A (Pw P wr h₂) f' D o' { s with heap := h₃, toks := tk₃ } _ _ st₃ hPwD hfD hD₃ hacc' (fun x c h1 h2 => fun h3 => hcap x c h1 h2 ?_) fun a ρ₄ acc₄ f₄ h₄ tk₄ o₄ g₄ st₄ hf₄ hD₄ hacc₄ hI₄ => ?_)
    · by_cases hm : c ∈ wr
      · exact absurd (hp c hm) (hcap x c h1 h2)
      · simpa [Pw, hm] using h3
    · have keep₄ : ∀ b ∈ wr, h₄.get? b = h₂.get? b := fun b hb => by
        obtain ⟨o, ho, hnf⟩ := r.there (i + 1) h₂ hS₂ b hb
        have : b ∉ [D] := fun hm => hDw (List.mem_singleton.mp hm ▸ hb)
        rw [ho]; exact (st₄.pin b o (by simp [Pw, this, hb, ho])).1 hnf.tab
      have eP₄ : Pw P wr h₄ = Pw P wr h₂ := by
        funext b; unfold Pw; split
        · rename_i hb; exact keep₄ b hb
        · rfl
      rw [← eP₄] at st₄ g₄
      have hf₄' : ∀ b ∈ wr, f₄ b = none := fun b hb => by
        cases q : f₄ b with
        | none => rfl
        | some o =>
          rcases g₄.new b o q with q' | q'
          · rw [hf' b hb] at q'; cases q'
          · obtain ⟨o', ho'⟩ := r.there (i + 1) h₂ hS₂ b hb
            simp [Pw, hb, keep₄ b hb, ho'] at q'
      refine wpAny_pure ⟨rfl, vs.length + 1 - (i + 1), by omega, i + 1, ρ₄, acc₄, f₄, h₄, tk₄, o₄, rfl, st₄, g'.trans (g₄.base (pw_base hp)), hf₄', hf₄, hD₄, hacc₄, ?_, hI₄, hlt, rfl⟩
      refine W₁.frame _ _ _ hS₂ fun b hb o e => ?_
      rcases r.foot b hb with hb | ⟨o', ho'⟩
      · rw [keep₄ b hb]; exact e
      · have h1 := hle.trans g'.le b o' ho'
        have h5 := st₄.pre.sub b o' (g₄.le b o' h1)
        have h6 := st₂.pre.sub b o' h1
        rw [h6] at e; cases e; exact h5
  · have hin : i = vs.length := by omega
    subst hin
    refine W₁.done _ _ _ hS fun h₂ tk₂ hk₂ => wpAny_pure ?_
    rw [swap] at st'
    have hD₂ : h₂.get? D = some o' := hk₂ D _ hDw hD'
    have eD : Pw P [D] h' = Pw P [D] h₂ := by
      funext b; unfold Pw; split
      · rename_i hb; rw [List.mem_singleton.mp hb, hD', hD₂]
      · rfl
    have st₂ := st'.moved hk₂ hf' (r.there _ h' hS) (hpD h') (hcapD h')
    rw [eD] at st₂
    exact hR ρ' acc' f' h₂ tk₂ o' g' (st₂.free (pw_base (hpD h₂)) (hcapD h₂)) hfD hD₂ hacc' (hend _ _ hI)
noncomputable def enumV (xs : List V) : List (V × V) := xs.zipIdx.map fun p => (V.int (p.2 : Int), p.1)
theorem enumV_get {xs : List V} {i : Nat} : (enumV xs)[i]? = xs[i]?.map fun x => (V.int (i : Int), x) := by
  unfold enumV
  rw [List.getElem?_map, List.getElem?_zipIdx]
  cases xs[i]? <;> simp
theorem HIg.enum {x : Str} {np pos : Pos} {e : Expr} {xs : List V} (F : FC sc nms gl) (hm : x ∈ gl) (hb : Bi W x (.type "enumerate")) (ha : HE W n sc ρ e (.val (.list xs)))
    (hs : ∀ env, starEach [e] env = (false, eval e env) :: starEach [] env := by intro _; rfl) (hpl : ∀ env, (backTo pos (starEach [] env)).any (·.1) = false := by intro _; rfl) :
    HIg W n sc ρ (.Call (.Name x np) [e] [] pos) (Wk2 W (enumV xs)) := by
  have hop : OpX W n (fun zs => call (.type "enumerate") zs) [.list xs] (fun f h f' h' z => ∃ D I l vs m, z = .ref D ∧ f' l = some (lobj vs m) ∧ Reps f' xs vs ∧ h.get? D = none ∧ f' D = none ∧ h.get? I = none ∧ f' I = none ∧ D ≠ I ∧ IsEnum h' D I 0 .none ∧ h'.IsListIter I l 0) := by
    intro A f s ys Q E hr hb hs hv hQ
    obtain ⟨y, rfl, hy⟩ := hv.one_inv
    obtain ⟨l, vs, m, rfl, hl, hw⟩ := hy.list_inv
    have n1 : s.heap.get? (s.heap.objs.size + 1) = none := by
      cases q : s.heap.get? (s.heap.objs.size + 1) with
      | none => rfl
      | some o => exact absurd (Heap.lt_size q) (Nat.not_lt.mpr (Nat.le_succ _))
    refine call_enumerate_list (isList (hs _ _ hl)) fun h' he hi hz hk => ?_
    exact hQ _ f h' s.toks (Ok.heap hs hk) ⟨_, _, l, vs, m, rfl, hl, hw, n1, new_none hs n1, size_none _, new_none hs (size_none _), Nat.succ_ne_self _, he, hi⟩
  intro env A P f s Q E p hQ
  refine JX.callT (F.gl x hm) hb (HA.cons ha HA.nil hs) hop ?_ hs hpl env A P f s _ E p ?_
  · intro f f₁ f' h h₁ h' z k ⟨D, I, l, vs, m, h1, h2, h3, h4, h5, h6, h7, h8⟩
    exact ⟨D, I, l, vs, m, h1, h2, h3, k.gone h4, h5, k.gone h6, h7, h8⟩
  · rintro z f' h' tk k ⟨D, I, l, vs, m, rfl, hl, hv, hD, hD', hI, hI', hDI, hE, hL⟩
    refine wpAny_pyIter_enum hE (hQ _ f' h' tk k ?_)
    have p1 := p.step k
    have hL0 := p1.sub _ _ hl
    have hne : l ≠ D := fun e => by subst e; rw [hD'] at hl; cases hl
    have hne' : l ≠ I := fun e => by subst e; rw [hI'] at hl; cases hl
    refine ⟨D, [D, I, l], [D, I], fun i h => (∃ old, IsEnum h D I i old) ∧ h.IsListIter I l i ∧ h.IsList l vs.toArray, rfl, ⟨fun i vals => ∃ t x, vs.toArray[i]? = some x ∧ vals = #[.int i t, x], fun i T h => (∃ x, IsEnumOut h D I ((i : Int) + 1) x T) ∧ h.IsListIter I l (i + 1) ∧ h.IsList l vs.toArray ∧ T ≠ D ∧ T ≠ I, fun A' hA => ?_, ?_⟩, ⟨⟨_, hE⟩, hL, isList hL0⟩, fun b hb => ?_, fun i h' q b hb => ?_, fun b hb => ?_⟩
    · have := WalksT.enumerate (prog := W.prog) (w := W.w) hA D I l hDI hne hne' vs.toArray
      rw [show (enumV xs).length = vs.toArray.size by rw [hv.arr]; simp [enumV]]
      exact this
    · rintro i vals ⟨t, x, hx, rfl⟩
      obtain ⟨v, h1, h2⟩ := hv.get' (i := i) (x := x) (by simpa using hx)
      exact ⟨.int i, v, _, _, by rw [enumV_get, h1]; rfl, rfl, .int _ _, h2⟩
    · rcases List.mem_cons.mp hb with rfl | hb
      · exact ⟨hD, hD'⟩
      · rw [List.mem_singleton.mp hb]; exact ⟨hI, hI'⟩
    · rcases List.mem_cons.mp hb with rfl | hb
      · obtain ⟨⟨old, he⟩, _⟩ := q
        exact ⟨_, he, .ty rfl rfl (by intro q t; nofun)⟩
      · rw [List.mem_singleton.mp hb]
        obtain ⟨_, ⟨o, ho, hc, hd⟩, _⟩ := q
        exact ⟨o, ho, .ty hc hd (by intro q t; nofun)⟩
    · rcases List.mem_cons.mp hb with rfl | hb
      · exact .inl (by simp)
      · rcases List.mem_cons.mp hb with rfl | hb
        · exact .inl (by simp)
        · rw [List.mem_singleton.mp hb]; exact .inr ⟨_, hl⟩
/-- [.. for x, y in ..] -/
theorem CompR.mapT {α : Type} {elt iter : Expr} {x y : Str} {xp yp tp cpos : Pos} {kk : Nat} {ifs : List Expr} {scope : Scope} {as : List α} {fa fb : α → V} {caps : List (Option Nat)} (ix jx : Nat) (c : α → Bool) (g : α → V)
    (hi : HIg W n sc ρ iter (Wk2 W (as.map fun a => (fa a, fb a)))) (ok : CompOk scope sc caps) (him : ∀ i, some i ∈ caps → ∃ b, ρ[i]? = some b ∧ immOnly b = true) (hne : ix ≠ jx)
    (R : Bd → Bd → List Bd) (hR : ∀ b b', ((rho0 ρ caps).set ix b).set jx b' = R b b') (hlen : as.length ≤ 1000000)
    (ht : ∀ v ∈ as, HTests W n (relS scope sc) (R (.imm (fa v)) (.imm (fb v))) ifs (c v)) (he : ∀ v ∈ as, c v = true → HE W n (relS scope sc) (R (.imm (fa v)) (.imm (fb v))) elt (.val (g v)))
    (how : ownOf scope x) (hx : (vnames (relS scope sc))[ix]? = some x) (hfr : ((relS scope sc).names.lookup x == some .free) = false)
    (how' : ownOf scope y) (hx' : (vnames (relS scope sc))[jx]? = some y) (hfr' : ((relS scope sc).names.lookup y == some .free) = false)
    (hs : ∀ env x, foldedSetIterable iter env x = pure x := by intro _ _; rfl) :
    CompR W n sc ρ elt [⟨.Tuple [.Name x xp, .Name y yp] kk tp, iter, ifs, 0⟩] scope cpos ((as.filter c).map g) := by
  have hset : ∀ b b' d d', (((((rho0 ρ caps).set ix b).set jx b').set ix d).set jx d') = R d d' := fun b b' d d' => by
    rw [List.set_comm _ _ (Ne.symm hne), List.set_set, List.set_set, hR]
  refine ⟨⟨.Tuple [.Name x xp, .Name y yp] kk tp, iter, ifs, 0⟩, _, _, _, rfl, Wk2.framed, hi, ok, him, CLg.startT (g := ⟨.Tuple [.Name x xp, .Name y yp] kk tp, iter, ifs, 0⟩) rfl rfl ?_, hs, rfl⟩
  refine CLg.loopT (fun i r acc => (r = rho0 ρ caps ∨ ∃ u v, r = ((rho0 ρ caps).set ix u).set jx v) ∧ acc = ((as.take i).filter c).map g ∧ i ≤ as.length) ix jx ⟨.inl rfl, by simp, Nat.zero_le _⟩ ?_ ?_ how how' hx hfr hx' hfr'
  · rintro i u w r acc hw ⟨hr, hacc, hi⟩
    rw [List.getElem?_map] at hw
    obtain ⟨v, hv, hvv⟩ := Option.map_eq_some_iff.mp hw
    cases hvv
    have hset' : (r.set ix (.imm (fa v))).set jx (.imm (fb v)) = R (.imm (fa v)) (.imm (fb v)) := by
      rcases hr with rfl | ⟨u, w, rfl⟩
      · exact hR _ _
      · exact hset _ _ _ _
    rw [hset']
    have hm : v ∈ as := List.mem_of_getElem? hv
    have hlt := (List.getElem?_eq_some_iff.mp hv).1
    have htk : as.take (i + 1) = as.take i ++ [v] := by rw [List.take_add_one, hv]; rfl
    refine CX.turn (ht v hm) (fun hc => CX.emit (he v hm hc) ?_ ?_) (fun hc => ?_)
    · rw [hacc, List.length_map]
      exact Nat.le_trans (List.length_filter_le ..) (by rw [List.length_take]; omega)
    · exact ⟨.inr ⟨_, _, (hR _ _).symm⟩, by rw [hacc, htk, List.filter_append, List.map_append]; simp [hc], by omega⟩
    · exact ⟨.inr ⟨_, _, (hR _ _).symm⟩, by rw [hacc, htk, List.filter_append, List.map_append]; simp [hc], by omega⟩
  · rintro r acc ⟨_, hacc, _⟩
    rw [hacc, List.length_map, List.take_length]
end Mine
end

/-! part M23 -/
section
open PySem PySem.W PyProof.Rows PySem.Calls
namespace Mine
variable {W : Wd} {n : Nat} {sc : Scope} {ρ : List Bd} {own : Str → Prop} {nms gl : List Str} {Post : Out → List Bd → Prop}

/-! a dict that is changed -/
noncomputable def dset (kvs : List (Int × V)) (k : Int) (v : V) : List (Int × V) :=
  if kvs.any (fun kv => decide (kv.1 = k)) then kvs.map (fun kv => if kv.1 = k then (kv.1, v) else kv) else kvs ++ [(k, v)]
theorem RepKV.put {f : FH} {k : Int} {v : V} {y : Value} (r : Rep f v y) : ∀ {a : List (Int × V)} {b : List (Int × Value)}, RepKV f a b →
    RepKV f (a.map fun kv => if kv.1 = k then (kv.1, v) else kv) (b.map fun kv => if kv.1 = k then (kv.1, y) else kv)
  | _, _, .nil => .nil
  | _, _, .cons (k := k') q d => by
    simp only [List.map_cons]
    by_cases c : k' = k
    · simp only [c, if_true]; exact .cons r (RepKV.put r d)
    · simp only [c, if_false]; exact .cons q (RepKV.put r d)
theorem RepKV.snoc {f : FH} {k : Int} {v : V} {y : Value} (r : Rep f v y) : ∀ {a : List (Int × V)} {b : List (Int × Value)}, RepKV f a b → RepKV f (a ++ [(k, v)]) (b ++ [(k, y)])
  | _, _, .nil => .cons r .nil
  | _, _, .cons q d => .cons q (RepKV.snoc r d)
theorem RepKV.stored {f : FH} {a : List (Int × V)} {b : List (Int × Value)} (x : RepKV f a b) {k : Int} {v : V} {y : Value} (r : Rep f v y) : RepKV f (dset a k v) (PySem.stored b k y) := by
  have hk : (b.any fun kv => decide (kv.1 = k)) = a.any fun kv => decide (kv.1 = k) := by
    have h := x.keys
    have e1 : ∀ l : List (Int × V), (l.any fun kv => decide (kv.1 = k)) = (l.map (·.1)).any fun z => decide (z = k) := fun l => by rw [List.any_map]; rfl
    have e2 : ∀ l : List (Int × Value), (l.any fun kv => decide (kv.1 = k)) = (l.map (·.1)).any fun z => decide (z = k) := fun l => by rw [List.any_map]; rfl
    rw [e1, e2, h]
  unfold dset PySem.stored
  rw [hk]
  split
  · exact x.put r
  · exact x.snoc r
/-! the maker of a dict -/
noncomputable def emitD (k v : Expr) (env : Env) (D : Addr) : Sem Unit := do
  let kv ← eval k env
  let vv ← holding [kv] (eval v env)
  standAt { k.pos with endLine := v.pos.endLine, endCol := v.pos.endCol }
  holding [kv, vv] (dictSet D kv vv)
theorem CX.emitD {k v : Expr} {acc : List (Int × V)} {kk : Int} {vv : V} {Post : List Bd → List (Int × V) → Prop} (hk : HE W n sc ρ k (.val (.int kk))) (hv : HE W n sc ρ v (.val vv)) (hsz : acc.length ≤ 1000000) (hp : Post ρ (dset acc kk vv)) :
    CXg accD own W n sc ρ acc (emitD k v) Post := by
  intro env A P f D o s Q E st hP hf hD hacc hcap hQ
  obtain ⟨es, m, rfl, hacc, hnd⟩ := hacc
  unfold Mine.emitD
  refine wpAny_bind (hk env A (Pw P [D] s.heap) f s _ E st.pre fun x f₁ h₁ tk₁ k₁ r₁ => ?_)
  obtain ⟨t, rfl⟩ := Rep.int_inv r₁
  have st₁ := st.step k₁
  have hD₁ : h₁.get? D = some (dobj es m) := k₁.ext _ _ hD notTab_d
  have hf₁ : f₁ D = none := k₁.none' hf hD
  refine wpAny_bind (wpAny_holding (hv env A (Pw P [D] s.heap) f₁ { s with heap := h₁, toks := tk₁ } _ E st₁.pre fun y f₂ h₂ tk₂ k₂ r₂ => ?_))
  have st₂ := st₁.step k₂
  have hD₂ : h₂.get? D = some (dobj es m) := k₂.ext _ _ hD₁ notTab_d
  have hf₂ : f₂ D = none := k₂.none' hf₁ hD₁
  refine wpAny_bind (wpAny_standAt (wpAny_holding ?_))
  have hr := hacc.mono (k₁.le.trans k₂.le)
  obtain ⟨kv, h1, h2⟩ := hr.dictAt (W := W) hD₂ hnd
  refine wpAny_dictSet_pairs (knd := intKind W.prog W.w) (s := { s with heap := h₂, toks := tk₂ }) (intKind_is _ _ kk t) h2.dictOf (fun h₃ hd₃ hs₃ => ?_) (by rw [h1.len, sizeLine_eq]; omega)
  obtain ⟨es', m', hD₃, hr₃, hn₃⟩ := dictOf_rep hd₃ (h1.stored r₂)
  have e : Pw P [D] s.heap = Pw P [D] h₂ := by
    funext b; unfold Pw; split
    · rename_i hb; rw [List.mem_singleton.mp hb, hD, hD₂]
    · rfl
  have kk₂ := k₁.trans k₂
  rw [e] at st₂
  refine hQ () ρ (dset acc kk vv) f₂ h₃ (tk₂ + 1) (dobj es' m') ?_ ?_ hf₂ hD₃ ⟨_, _, rfl, hr₃, hn₃⟩ hp
  · exact (kk₂.gr st.pin).base (pw_base fun b hb => by rw [List.mem_singleton.mp hb]; exact hP)
  · exact st₂.moved (fun b o hb ho => hs₃.extBut b o (fun e => hb (List.mem_singleton.mpr e)) ho) (fun b hb => by rw [List.mem_singleton.mp hb]; exact hf₂) (fun b hb => by rw [List.mem_singleton.mp hb]; exact ⟨_, hD₂, .d⟩)
      (fun b hb => by rw [List.mem_singleton.mp hb]; exact hP) hcap
theorem formD {k v : Expr} {x : Str} {xp : Pos} {iter : Expr} {ifs : List Expr} {scope : Scope} {cpos : Pos} (env : Env) (D I : Addr) :
    compTurn (.DictComp k v [⟨.Name x xp, iter, ifs, 0⟩] scope cpos) 0 (.ref I) (.ref D) env = (standAt iter.pos >>= fun _ => pyNext (.ref I) >>= fun r => match r with
      | none => pure (.done .next)
      | some u => assign (.Name x xp) env u >>= fun _ => turnL ifs (emitD k v) env D >>= fun _ => again (.compLoop (.DictComp k v [⟨.Name x xp, iter, ifs, 0⟩] scope cpos) 0 (.ref I) (.ref D) env)) := by
  show (standAt iter.pos >>= fun _ => pyNext (.ref I) >>= fun r => _) = _
  refine congrArg (fun k => standAt iter.pos >>= k) (funext fun _ => congrArg (fun k => pyNext (.ref I) >>= k) (funext fun r => ?_))
  cases r with
  | none => rfl
  | some u =>
    show (letOwnedTupleGo (.Name x xp) (.ref I) u >>= fun _ => _) = _
    rw [show letOwnedTupleGo (.Name x xp) (.ref I) u = pure () from rfl, pure_bind]
    refine congrArg (fun k => assign (.Name x xp) env u >>= k) (funext fun _ => ?_)
    unfold turnL
    rw [bind_assoc]
    refine congrArg (fun k => _ >>= k) (funext fun ok => ?_)
    cases ok with
    | true => rfl
    | false => rfl
theorem mk_dict : ∀ (A : Around) (s : Shared) (Q : Value → Shared → Prop) (E : Value → Shared → Prop), Q (.ref s.heap.objs.size) { s with heap := s.heap.push (dobj [] 0) } → wpAny W.M A newDict Q E s := fun A s Q E h => by
  unfold newDict newObj
  exact wpAny_bind (wpAny_alloc (wpAny_pure h))
theorem nil_dict : ∀ f, accD.R f [] (dobj [] 0) := fun f => ⟨[], 0, rfl, .nil, List.nodup_nil⟩
/-- a comprehension that makes a dict -/
noncomputable def CompD (W : Wd) (n : Nat) (sc : Scope) (ρ : List Bd) (k v : Expr) (gens : List Comprehension) (scope : Scope) (cpos : Pos) (out : List (Int × V)) : Prop :=
  ∃ g gs K caps, gens = g :: gs ∧ Framed K ∧ HIg W n sc ρ g.iter K ∧ CompOk scope sc caps ∧ (∀ i, some i ∈ caps → ∃ b, ρ[i]? = some b ∧ immOnly b = true) ∧
    CLt accD (ownOf scope) W n (relS scope sc) (rho0 ρ caps) [] (fun env D I => .compStart (.DictComp k v gens scope cpos) 0 (.ref I) (.ref D) env) K (fun _ a => a = out) ∧
    (∀ env x, foldedSetIterable g.iter env x = pure x) ∧ firstAsync gens = false
theorem CompD.he {k v : Expr} {gens : List Comprehension} {scope : Scope} {cpos : Pos} {out : List (Int × V)} (h : CompD W n sc ρ k v gens scope cpos out) : HE W n sc ρ (.DictComp k v gens scope cpos) (.freshD out) := by
  obtain ⟨g, gs, K, caps, rfl, hfm, hi, ok, him, hc, hs, ha⟩ := h
  intro env A P f s Q E p hQ
  show wpAny W.M A (eval (.DictComp k v (g :: gs) scope cpos) env) Q E s
  rw [arm_eval_DictComp, ha, firstIter_eq]
  refine comp_run (T := accD) (use := Option.none) mk_dict rfl nil_dict rfl hs hfm hi ok him hc p fun f' h' tk D o C mm hD hfD hDo hr hC hfC hns hDC hsy k => ?_
  obtain ⟨es, m, rfl, hr, hn⟩ := hr
  refine ⟨mm, hns, fun h'' hs'' => ?_⟩
  refine hQ _ f' h'' tk ⟨fun a o e c => hs''.extBut a o (by rintro rfl; rw [hC] at e; cases e) (k.ext a o e c),
    fun a o e c => by obtain ⟨o', h1, h2⟩ := k.tab a o e c; exact ⟨o', hs''.extBut a o' (by rintro rfl; rw [hC] at e; cases e) h1, h2⟩,
    fun x q hq => (k.tabs x q hq).but (NF.ns hns) fun b o hb e => hs''.extBut b o hb e, k.le, fun a o e => hs''.extBut a o (by rintro rfl; rw [hfC] at e; cases e) (k.sub a o e), k.new⟩ ?_
  exact ⟨D, es, m, rfl, hsy, hD, hfD, hs''.extBut _ _ hDC hDo, hr, hn⟩
/-- x = {..}: the name is stored before the frame's names go; the dict frozen at once -/
theorem HS.asgCompD {x : Str} {xp pos : Pos} {k v : Expr} {gens : List Comprehension} {scope : Scope} {cpos : Pos} {out : List (Int × V)} {rest : List Stmt} {ρ' : List Bd} {i : Nat} (F : FF sc nms gl) (h : CompD W n sc ρ k v gens scope cpos out)
    (hp : Put nms ρ x (.imm (.dict out)) ρ' i) (hn : HS W n sc ρ' rest Post) (ho : oneD ρ i = true)
    (hsw : ∀ env, env.scope = sc → swapsWith (.DictComp k v gens scope cpos) (some (.Name x xp)) pos.line env = pure true := by intro env e; cases env; cases e; rfl) :
    HS W n sc ρ (.Assign [.Name x xp] (.DictComp k v gens scope cpos) pos :: rest) Post := by
  obtain ⟨g, gs, K, caps, rfl, hfm, hi, ok, him, hc, hs, ha⟩ := h
  obtain ⟨hx, rfl⟩ := hp.at
  have hx' : (vnames sc)[i]? = some x := by rw [F.nm]; exact hx
  refine HS.step (ρ' := ρ.set i (.mutD out)) ?_ ?_
  · intro env A P f s Q E st hQ
    show wpAny W.M A (exec (.Assign [.Name x xp] (.DictComp k v (g :: gs) scope cpos) pos) env) Q E s
    rw [exec_Assign_Name_used _ _ _ _ (hsw env st.pre.eok.scope)]
    refine wpAny_bind (wpAny_standAt (wpAny_bind ?_))
    show wpAny W.M A (do let _ ← comprehension (.DictComp k v (g :: gs) scope cpos) scope env _ newDict (firstAsync (g :: gs)) (firstIter (g :: gs) env) (some (PySem.assign (.Name x xp) env))) _ _ s
    rw [ha, firstIter_eq]
    refine wpAny_bind (wpAny_mono (comp_run (T := accD) (use := some (PySem.assign (.Name x xp) env)) (Q := fun _ s' => Q .next s') mk_dict rfl nil_dict rfl hs hfm hi ok him hc st.pre fun f' h' tk D o C mm hD hfD hDo hr hC hfC hns hDC hsy k => ?_) (fun _ s' hq => wpAny_pure (wpAny_pure hq)) fun _ _ e => e)
    obtain ⟨es, m, rfl, hr, hnd⟩ := hr
    have hpC : ∀ b ∈ [C], P b = none := fun b hb => by
      rw [List.mem_singleton.mp hb]
      cases q : P C with
      | none => rfl
      | some o => obtain ⟨o', h9⟩ := st.pin.there q; rw [h9] at hC; cases hC
    have hpD : P D = none := by
      cases q : P D with
      | none => rfl
      | some o => obtain ⟨o', h9⟩ := st.pin.there q; rw [h9] at hD; cases hD
    have st' := st.guard k (wr := [C]) (fun b hb => by rw [List.mem_singleton.mp hb]; exact ⟨hC, hfC⟩) hpC
    obtain ⟨oC, hoC, hnC⟩ := NF.ns hns
    have hDL : D ≠ env.locals := by
      rintro rfl
      obtain ⟨m, o, es, ep, ho, _⟩ := st.ns
      rw [ho] at hD; cases hD
    show wpAny W.M A (PySem.assign (.Name x xp) env (.ref D)) _ _ _
    refine wpAny_assign_Name (st'.store (s := { s with heap := h', toks := tk }) (b := .mutD out) hx' ⟨D, es, m, rfl, hsy, hDo, hr, hnd, hfD, by simp [Pw, hDC, hpD], hDL⟩ (nf_of F hx) (how := trivial) fun h₂ tk₂ st₂ => ?_)
    have hC₂ : h₂.get? C = some oC := (st₂.pin C oC (by simp [Pw, hoC])).1 hnC.tab
    refine ⟨mm, hns.at' fun o e => by rw [hoC] at e; cases e; exact hC₂, fun h₃ hs₃ => ?_⟩
    have e₂ : Pw P [C] h' = Pw P [C] h₂ := by
      funext b; unfold Pw; split
      · rename_i hb; rw [List.mem_singleton.mp hb, hoC, hC₂]
      · rfl
    rw [e₂] at st₂
    have st₃ := (st₂.moved (h' := h₃) (fun b o hb e => hs₃.extBut b o (fun q => hb (List.mem_singleton.mpr q)) e) (fun b hb => by rw [List.mem_singleton.mp hb]; exact hfC) (fun b hb => by rw [List.mem_singleton.mp hb]; exact ⟨_, hC₂, hnC⟩) hpC st.capt).free (pw_base hpC) st.capt
    exact hQ .next .next _ f' h₃ tk₂ (k.gr st.pin) st₃ trivial ⟨rfl, rfl⟩
  by_cases hlt : i < ρ.length
  · refine HS.freezeD i (xs := out) (by rw [List.getElem?_set_self hlt]) (by rw [List.set_set]; exact hn) fun j ys hj => ?_
    rw [List.getElem?_set_ne (Ne.symm hj)]
    exact oneD_at ho j ys hj
  · intro env A P f s Q E st
    exfalso
    have h1 := st.len
    rw [List.length_set, F.nm] at h1
    have := (List.getElem?_eq_some_iff.mp hx).1
    omega
/-- one clause over the images of a list, the keys apart -/
theorem CompD.mapA {α : Type} {k v iter : Expr} {x : Str} {xp cpos : Pos} {ifs : List Expr} {scope : Scope} {as : List α} {fv : α → V} {caps : List (Option Nat)} (ix : Nat) (c : α → Bool) (gk : α → Int) (g : α → V) (hi : HI W n sc ρ iter (as.map fv)) (ok : CompOk scope sc caps) (him : ∀ i, some i ∈ caps → ∃ b, ρ[i]? = some b ∧ immOnly b = true)
    (R : Bd → List Bd) (hR : ∀ b, (rho0 ρ caps).set ix b = R b) (hlen : as.length ≤ 1000000) (hnd : (as.map gk).Nodup) (ht : ∀ v ∈ as, HTests W n (relS scope sc) (R (.imm (fv v))) ifs (c v)) (hk : ∀ a ∈ as, c a = true → HE W n (relS scope sc) (R (.imm (fv a))) k (.val (.int (gk a))))
    (he : ∀ a ∈ as, c a = true → HE W n (relS scope sc) (R (.imm (fv a))) v (.val (g a)))
    (how : ownOf scope x) (hx : (vnames (relS scope sc))[ix]? = some x) (hfr : ((relS scope sc).names.lookup x == some .free) = false)
    (hs : ∀ env x, foldedSetIterable iter env x = pure x := by intro _ _; rfl) :
    CompD W n sc ρ k v [⟨.Name x xp, iter, ifs, 0⟩] scope cpos ((as.filter c).map fun a => (gk a, g a)) := by
  refine ⟨⟨.Name x xp, iter, ifs, 0⟩, _, _, _, rfl, Wk1.framed, hi, ok, him, CL.start (g := ⟨.Name x xp, iter, ifs, 0⟩) isComp_dict rfl rfl ?_, hs, rfl⟩
  refine CL.loop (tgt := .Name x xp) isComp_dict (formD (k := k) (v := v) (x := x) (xp := xp) (iter := iter) (ifs := ifs) (scope := scope) (cpos := cpos)) (fun i r acc => (r = rho0 ρ caps ∨ ∃ u, r = (rho0 ρ caps).set ix (.imm u)) ∧ acc = ((as.take i).filter c).map (fun a => (gk a, g a)) ∧ i ≤ as.length) ix ⟨.inl rfl, by simp, Nat.zero_le _⟩ ?_ ?_ how hx hfr
  · rintro i w r acc hw ⟨hr, hacc, hi⟩
    rw [List.getElem?_map] at hw
    obtain ⟨a, hv, rfl⟩ := Option.map_eq_some_iff.mp hw
    have hset : r.set ix (.imm (fv a)) = (rho0 ρ caps).set ix (.imm (fv a)) := by
      rcases hr with rfl | ⟨u, rfl⟩
      · rfl
      · rw [List.set_set]
    rw [hset, hR]
    have hm : a ∈ as := List.mem_of_getElem? hv
    have hlt := (List.getElem?_eq_some_iff.mp hv).1
    have htk : as.take (i + 1) = as.take i ++ [a] := by rw [List.take_add_one, hv]; rfl
    refine CX.turn (ht a hm) (fun hc => CX.emitD (hk a hm hc) (he a hm hc) ?_ ?_) (fun hc => ?_)
    · rw [hacc, List.length_map]
      exact Nat.le_trans (List.length_filter_le ..) (by rw [List.length_take]; omega)
    · refine ⟨.inr ⟨_, (hR _).symm⟩, ?_, by omega⟩
      rw [hacc, htk, List.filter_append, List.map_append]
      unfold dset
      rw [if_neg]
      · simp [hc]
      · rw [List.any_eq_true]
        rintro ⟨p, hp, hpk⟩
        obtain ⟨b, hb, rfl⟩ := List.mem_map.mp hp
        have hbt := (List.mem_filter.mp hb).1
        obtain ⟨j, hj⟩ := List.getElem?_of_mem hbt
        have hji : j < i := by
          have := (List.getElem?_eq_some_iff.mp hj).1
          rw [List.length_take] at this; omega
        rw [List.getElem?_take_of_lt hji] at hj
        have h1 : (as.map gk)[j]? = some (gk b) := by rw [List.getElem?_map, hj]; rfl
        have h2 : (as.map gk)[i]? = some (gk b) := by rw [List.getElem?_map, hv]; simpa using (of_decide_eq_true hpk).symm
        have hjl := (List.getElem?_eq_some_iff.mp h1)
        have hil := (List.getElem?_eq_some_iff.mp h2)
        obtain ⟨p1, q1⟩ := hjl
        obtain ⟨p2, q2⟩ := hil
        have := (List.getElem_inj hnd).mp (q1.trans q2.symm)
        omega
    · exact ⟨.inr ⟨_, (hR _).symm⟩, by rw [hacc, htk, List.filter_append, List.map_append]; simp [hc], by omega⟩
  · rintro r acc ⟨_, hacc, _⟩
    rw [hacc, List.length_map, List.take_length]
end Mine
end

/-! part M24 -/
section
open PySem PySem.W PyProof.Rows PySem.Calls
set_option maxRecDepth 100000
namespace Mine
variable {W : Wd} {n : Nat} {sc : Scope} {ρ : List Bd} {own : Str → Prop} {nms gl : List Str} {Post : Out → List Bd → Prop}

/-! sorted of a dict -/
theorem perm_same : ∀ {a b : List Int}, a.Perm b → a.Pairwise (· ≤ ·) → b.Pairwise (· ≤ ·) → a = b := fun hp ha hb => hp.eq_of_pairwise (fun x y _ _ h1 h2 => Int.le_antisymm h1 h2) ha hb
section
variable {prog : Program} {w : World} {A : Around} {E : Value → Shared → Prop} {s : Shared}
theorem hint_dict {d : Addr} {Q : Bool → Shared → Prop} (hT : s.TypeIs (.ref d) "dict") (h : Q false s) : wpAny (model prog w) A (Builtin.List.listLengthHint (.ref d)) Q E s := by
  unfold Builtin.List.listLengthHint
  refine wpAny_bind (wpAny_specialOf (name := Str.ofString "__len__") hT PySem.F.slot_dict_len.lookup ?_)
  generalize hid : ("dict.__len__" : String) = id0
  wp_delta
  rw [show splitId id0 = some ("dict", "__len__") from by subst hid; decide +kernel]
  subst hid
  refine wpAny_bind (wpAny_isInstance (T := "dict") (b := true) hT (by rw [isSubtype_type]; kernel_rfl) ?_)
  refine wpAny_ite_split (fun hab => absurd hab (by decide)) (fun _ => ?_)
  refine wpAny_ite_split (fun _ => ?_) (fun hab => absurd (by decide +kernel) hab)
  exact wpAny_bind (wpAny_typeOf (T := "dict") hT (wpAny_pure h))
theorem collect_dict {d : Addr} {kvs : List (Int × Value)} {m : Nat} {Q : List Value → Shared → Prop} (hh : A.handled = none) (hsy : (d == sysModules) = false) (hd : s.heap.DictAt (intKind prog w) d kvs m) (hsz : kvs.length ≤ 1000)
    (hQ : ∀ xs h' tk, xs.length = kvs.length → (∀ (i : Nat) x, xs[i]? = some x → ∃ k y, kvs[i]? = some (k, y) ∧ (intKind prog w).is k x = true) → (∀ b o, s.heap.get? b = some o → h'.get? b = some o) → Q xs { s with heap := h', toks := tk }) :
    wpAny (model prog w) A (collect (.ref d)) Q E s := by
  have hdlt : d < s.heap.objs.size := by obtain ⟨o, es, ho, _⟩ := id hd; exact Heap.lt_size ho
  unfold collect
  refine wpAny_bind (wpAny_runValue (codeAny_builtin PySem.F.entry_proto_collect ?_))
  rw [Around.under_plainId PySem.F.plain_proto_collect _]
  show wpAny _ A.in1 (newList [] >>= fun l => again (.builtin "list.__iadd__" ⟨[l, .ref d], []⟩)) _ _ s
  refine wpAny_bind (wpAny_newObj_type ?_)
  refine wpAny_pure ⟨plainId_quiet PySem.F.plain_list_iadd _, codeAny_builtin PySem.F.entry_list_iadd ?_⟩
  rw [Around.under_plainId PySem.F.plain_list_iadd _]
  generalize hh1 : s.heap.push { cls := .type "list", data := .seq ([] : List Value).toArray } = h1
  have up1 : ∀ b o, s.heap.get? b = some o → h1.get? b = some o := fun b o e => by rw [← hh1]; exact Heap.get?_push_of_some _ e
  have hS1 : h1.get? s.heap.objs.size = some { cls := .type "list", data := .seq ([] : List Value).toArray } := by rw [← hh1]; exact Heap.get?_push_size _ rfl
  have hd1 : h1.DictAt (intKind prog w) d kvs m := hd.at' (up1 d)
  have hsz1 : h1.objs.size = s.heap.objs.size + 1 := by rw [← hh1, Heap.size_push]
  have hne : d ≠ h1.objs.size := by rw [hsz1]; exact Nat.ne_of_lt (Nat.lt_succ_of_lt hdlt)
  show wpAny _ A.in1 (Builtin.List.listExtendWith (.ref s.heap.objs.size) (.ref d) (.ref s.heap.objs.size)) _ _ { s with heap := h1 }
  unfold Builtin.List.listExtendWith
  refine wpAny_bind (wpAny_typeOf (T := "dict") (s := { s with heap := h1 }) hd1.dictOf.typeIs ?_)
  have q1 : Builtin.List.listSameRef (.ref s.heap.objs.size) (.ref d) = false := by simp [Builtin.List.listSameRef]; exact Nat.ne_of_gt hdlt
  have q2 : (Value.type "dict" == Value.type "list") = false := by decide
  have q3 : (Value.type "dict" == Value.type "tuple") = false := by decide
  simp only [q1, q2, q3, Bool.or_false, Bool.false_eq_true, if_false]
  refine wpAny_bind (wpAny_pyIter_dict (knd := intKind prog w) (s := { s with heap := h1 }) hsy hd1 ?_)
  dsimp only
  generalize hh2 : h1.push { cls := .type "dict_keyiterator", data := .fields #[.ref d, .int 0 0, .int kvs.length 0, .int m 0] } = h2
  have up2 : ∀ b o, h1.get? b = some o → h2.get? b = some o := fun b o e => by rw [← hh2]; exact Heap.get?_push_of_some _ e
  have hI2 : h2.IsKeyIter h1.objs.size d 0 kvs.length m := by rw [← hh2]; exact ⟨_, Heap.get?_push_size _ rfl, rfl, rfl⟩
  have hd2 : h2.DictAt (intKind prog w) d kvs m := hd1.at' (up2 d)
  refine wpAny_bind (wpAny_holding (hint_dict (s := { s with heap := h2 }) hd2.dictOf.typeIs ?_))
  refine wpAny_ite_split (fun _ => ?_) (fun hab => absurd (by decide +kernel) hab)
  refine wpAny_bind (wpAny_rule ?_)
  refine wpAny_bind ?_
  show wpAny _ A.in1 (updateSeq s.heap.objs.size (·.push .none) >>= fun _ => updateSeq s.heap.objs.size (·.pop)) _ _ _
  have hS2 := up2 _ _ hS1
  refine wpAny_bind (wpAny_updateSeq (s := { s with heap := h2 }) hS2 rfl ?_)
  have hS3 := Heap.get?_update_self (Obj.mapSeq (·.push Value.none)) hS2 rfl
  refine wpAny_updateSeq (hz := by seq_fits) hS3 rfl ?_
  have hS4 := Heap.get?_update_self (Obj.mapSeq (·.pop)) hS3 rfl
  dsimp only
  generalize hh4 : (h2.update s.heap.objs.size (Obj.mapSeq (·.push Value.none))).update s.heap.objs.size (Obj.mapSeq (·.pop)) = h4 at hS4 ⊢
  have up4 : ∀ b o, b ≠ s.heap.objs.size → h2.get? b = some o → h4.get? b = some o := fun b o hb e => by
    rw [← hh4]; exact (Heap.get?_update_other _ _ (Ne.symm hb)).trans ((Heap.get?_update_other _ _ (Ne.symm hb)).trans e)
  have hdS : d ≠ s.heap.objs.size := Nat.ne_of_lt hdlt
  have hIS : h1.objs.size ≠ s.heap.objs.size := by rw [hsz1]; exact Nat.succ_ne_self _
  have hI4 : h4.IsKeyIter h1.objs.size d 0 kvs.length m := hI2.at fun o e => up4 _ o hIS e
  have hd4 : h4.DictAt (intKind prog w) d kvs m := hd2.at' fun o e => up4 _ o hdS e
  have X := (Walks.dictKeys (prog := prog) (w := w) (knd := intKind prog w) (A := A.in1) hh h1.objs.size d hne kvs m).toS
  refine wpAny_pure ⟨plainId_quiet PySem.F.plain_extend_loop _, codeAny_extend_loopS X (by rw [sizeLine_eq]; omega) s.heap.objs.size (by simp; exact ⟨Ne.symm hIS, Ne.symm hdS⟩) _ kvs.length 0 { s with heap := h4 } _ _ rfl (Nat.zero_le _) ⟨hI4, hd4⟩ hS4 (ItemsOf.nil _) fun s' acc' c' hm hS' hacc => ?_⟩
  show wpAny _ A (load s.heap.objs.size >>= _) _ _ s'
  refine wpAny_bind (wpAny_load hS' ?_)
  rw [Moved.eq_with hm]
  refine wpAny_pure (hQ _ _ _ (by rw [Array.length_toList, hacc.1]) (fun i x hx => ?_) fun b o e => ?_)
  · exact hacc.2 i x (by simpa using hx)
  · refine hm.heap b o (fun hmem => ?_) (up4 b o (Nat.ne_of_lt (Heap.lt_size e)) (up2 b o (up1 b o e)))
    rcases List.mem_cons.mp hmem with e' | hmem
    · subst e'; exact Nat.lt_irrefl _ (Heap.lt_size e)
    · rw [List.mem_singleton.mp hmem] at e
      have := Heap.lt_size e
      rw [hsz1] at this
      exact absurd this (Nat.not_lt.mpr (Nat.le_succ _))
end
theorem sorted_heap {h : Heap} {S : Addr} {vs : List Value} {n : Nat} {out : Array Value} (hS : h.get? S = some (seqObj "list" vs.toArray n)) :
    (∀ b o, b ≠ S → h.get? b = some o → (sortedHeap h S vs out).get? b = some o) ∧ ∃ e, (sortedHeap h S vs out).get? S = some (seqObj "list" out e) :=
  ⟨fun b o hb e => by rw [sortedHeap_old hb (Heap.lt_size e)]; exact e, sortedHeap_at hS⟩
theorem OpC.sortedD {kvs : List (Int × V)} {ns : List Int} (hp : ns.Perm (kvs.map (·.1))) (ho : ns.Pairwise (· ≤ ·)) (hsz : kvs.length < 64) : Op W n (fun as => call (.builtin "sorted") as) [.dict kvs] (.freshL (ns.map .int)) :=
  OpC.one fun A f s x Q E hr hs hx hQ => by
    obtain ⟨d, es, m, rfl, hm, hd, hw, hn⟩ := hx.dict_inv
    have hL := hs _ _ hd
    obtain ⟨kv, h1, h2⟩ := hw.dictAt (W := W) hL hn
    have hlen := h1.len
    refine Calls.call_function_entry kind_sorted plain_sorted entry_sorted (args_sorted1 _) ?_
    unfold Builtin.«sorted»
    refine wpAny_bind (m := checkCount "sorted" 1 1 _) (wpAny_pure ?_)
    refine wpAny_bind (collect_dict hr.handled hm h2 (by omega) fun xs h' tk hxl hx hk => ?_)
    have hI : IntsAre xs (kvs.map (·.1)) := by
      refine (Reps.ints (f := f) (ns := kvs.map (·.1)) (xs := xs) (Reps.of_items (by simp [hxl, hlen]) fun i v y hv hy => ?_))
      obtain ⟨k, u, g1, g2⟩ := hx i y hy
      obtain ⟨w', g3, _⟩ := h1.nth g1
      obtain ⟨t, rfl⟩ := Value.isInt_shape g2
      rw [List.getElem?_map, List.getElem?_map, g3] at hv
      simp at hv; subst hv; exact .int _ _
    refine wpAny_bind (wpAny_newList ?_)
    have hS : (h'.push (seqObj "list" xs.toArray 0)).get? h'.objs.size = some (seqObj "list" xs.toArray 0) := Heap.get?_push_size _ rfl
    refine wpAny_bind (wpAny_holding (wpAny_call_entry slot_list_sort (s := { s with heap := h'.push (seqObj "list" xs.toArray 0), toks := tk }) ⟨_, hS, rfl⟩ entry_list_sort (list_sort_tree hS hI (by rw [hxl]; omega) fun out ns' a1 a2 a3 => ⟨_, rfl, ?_⟩) (args_list_sort _)))
    obtain ⟨g1, e, g2⟩ := sorted_heap (out := out) hS
    have hns : ns' = ns := perm_same (a2.trans hp.symm) a3 ho
    subst hns
    have hk' : ∀ b o, s.heap.get? b = some o → (sortedHeap (h'.push (seqObj "list" xs.toArray 0)) h'.objs.size xs out).get? b = some o := fun b o e => g1 b o (Nat.ne_of_lt (Heap.lt_size (hk b o e))) (Heap.get?_push_of_some _ (hk b o e))
    have hnone : s.heap.get? h'.objs.size = none := by
      cases q : s.heap.get? h'.objs.size with
      | none => rfl
      | some o => exact absurd (Heap.lt_size (hk _ _ q)) (Nat.lt_irrefl _)
    refine wpAny_pure ⟨_, rfl, hQ _ f _ tk (Ok.heap hs hk') ⟨h'.objs.size, out.toList, e, rfl, hnone, new_none hs hnone, by rw [g2]; simp [seqObj, lobj], Reps.of_ints a1⟩⟩
end Mine
end

/-! part M25 -/
section
open PySem PySem.W PyProof.Rows PySem.Calls
namespace Mine
variable {W : Wd} {n : Nat} {sc : Scope} {ρ : List Bd} {own : Str → Prop} {nms gl : List Str} {Post : Out → List Bd → Prop}

/-! x[k] = v upon a dict -/
theorem St.chD {env : Env} {A : Around} {P f : FH} {h h' : Heap} {i : Nat} {xs ys : List (Int × V)} {a : Addr} {vs vs' : List DictEntry} {m m' : Nat} (st : St own W n sc ρ env A P f h) (hv : ρ[i]? = some (.mutD xs)) (ho : oneD ρ i = true)
    {x : Str} (hx : (vnames env.scope)[i]? = some x) (hl : Look env h x (some (.ref a))) (hsy : (a == sysModules) = false) (ha : h.get? a = some (dobj vs m)) (hf : f a = none) (hP : P a = none) (hL : a ≠ env.locals) (hs : Heap.SameBut a h h') (ha' : h'.get? a = some (dobj vs' m')) (hr : RepD f ys vs') (hn : (ys.map (·.1)).Nodup) :
    St own W n sc (ρ.set i (.mutD ys)) env A P f h' := by
  have hcell : ∀ c o, h.IsCell c o → c ≠ a := fun c o hc e => by
    subst e
    obtain ⟨ob, h1, h2⟩ := hc
    rw [ha] at h1; cases h1; cases h2
  have lk : ∀ y o, Look env h y o → Look env h' y o := fun y o hl => by
    rcases hl with ⟨k, mm, hn, hm⟩ | ⟨k, c, hc, hv⟩
    · exact .inl ⟨k, mm, hn.sameBut hs (Ne.symm hL), hm⟩
    · exact .inr ⟨k, c, hc, hv.sameBut hs (hcell c _ hv)⟩
  refine { pre := ⟨st.pre.eok, st.pre.room, st.pre.base.same ⟨_, ha, .d⟩ hs, fun b o e => (hs.2 b (by rintro rfl; rw [hf] at e; cases e)).trans (st.pre.sub b o e), ?_⟩, pin := ?_, ns := ?_, locP := st.locP, locF := st.locF, cell := ?_, apart := st.apart, len := by rw [List.length_set]; exact st.len, capt := st.capt }
  · intro j b e
    by_cases hj : j = i
    · subst hj
      have hlt : j < ρ.length := (List.getElem?_eq_some_iff.mp hv).1
      rw [List.getElem?_set_self hlt] at e
      cases e
      exact ⟨x, _, hx, lk _ _ hl, a, vs', m', rfl, hsy, ha', hr, hn, hf, hP, hL⟩
    · rw [List.getElem?_set_ne (Ne.symm hj)] at e
      obtain ⟨y, o, h1, h2, h3⟩ := st.pre.vars j b e
      refine ⟨y, o, h1, lk _ _ h2, ?_⟩
      cases b with
      | unb => exact h3
      | imm v => exact h3
      | mutD zs => exact absurd e (oneD_at ho j zs hj)
      | mutL zs =>
        obtain ⟨b, es, m, q1, q3, q4⟩ := h3
        exact ⟨b, es, m, q1, (hs.2 b (by rintro rfl; exact obj_ld q3 ha)).trans q3, q4⟩
  · exact st.pin.same hs hP
  · obtain ⟨mm, hn⟩ := st.ns; exact ⟨mm, hn.sameBut hs (Ne.symm hL)⟩
  · intro y c h0 h1 h2
    obtain ⟨b1, b2, o, b3⟩ := st.cell y c h0 h1 h2
    exact ⟨b1, b2, o, b3.sameBut hs (hcell c o b3)⟩
theorem HS.setKey {x : Str} {xp spos pos : Pos} {ie e : Expr} {rest : List Stmt} {xs : List (Int × V)} {k : Int} {v : V} {ρ' : List Bd} {i : Nat} (F : FF sc nms gl) (he : HE W n sc ρ e (.val v)) (hi : HE W n sc ρ ie (.val (.int k)))
    (hp : Put nms ρ x (.mutD (dset xs k v)) ρ' i) (hsz : xs.length ≤ 1000000) (hn : HS W n sc ρ' rest Post) (hv : ρ[i]? = some (.mutD xs) := by rfl) (ho : oneD ρ i = true := by rfl)
    (hsw : ∀ env, swapsWith e (some (.Subscript (.Name x xp) ie spos)) pos.line env = pure false := by intro _; rfl) :
    HS W n sc ρ (.Assign [.Subscript (.Name x xp) ie spos] e pos :: rest) Post := by
  obtain ⟨hx, rfl⟩ := hp.at
  refine HS.step (ρ' := ρ.set i (.mutD (dset xs k v))) ?_ hn
  intro env A P f s Q E st hQ
  refine wpAny_Assign_Subscript (hs := hsw env) ?_
  refine he env A P f s _ E st.pre fun y f₁ h₁ tk₁ k₁ r₁ => ?_
  have st₁ := st.step k₁
  obtain ⟨x', o, e1, hl, a, vs, m, rfl, hsy, ha, hr, hnd, hf, hP, hL⟩ := st₁.pre.vars i _ hv
  have hxx : x' = x := by
    rw [st.pre.eok.scope, F.nm, hx] at e1; exact (Option.some.inj e1).symm
  subst hxx
  have hm : x' ∈ vnames sc := by rw [F.nm]; exact List.mem_of_getElem? hx
  refine wpAny_Name (look_load st₁.pre.eok hm hl ?_) (st₁.pre.eok.plain x' hm).1
  refine hi env A P f₁ { s with heap := h₁, toks := tk₁ } _ E st₁.pre fun z f₂ h₂ tk₂ k₂ r₂ => ?_
  obtain ⟨t, rfl⟩ := Rep.int_inv r₂
  have st₂ := st₁.step k₂
  have ha₂ := k₂.ext _ _ ha notTab_d
  have hf₂ := k₂.none' hf ha
  have hr₂ := hr.mono k₂.le
  obtain ⟨kv, g1, g2⟩ := hr₂.dictAt (W := W) ha₂ hnd
  refine wpAny_setItem_pairs (knd := intKind W.prog W.w) (s := { s with heap := h₂, toks := tk₂ }) (intKind_is _ _ k t) g2.dictOf (fun h₃ hd₃ hs₃ => ?_) (by rw [g1.len, sizeLine_eq]; omega)
  obtain ⟨es', m', hD₃, hr₃, hn₃⟩ := dictOf_rep hd₃ (g1.stored (Rep.mono k₂.le r₁))
  exact hQ .next .next _ f₂ h₃ (tk₂ + 1) ((k₁.trans k₂).gr st.pin) (st₂.chD hv ho (x := x') (by rw [st.pre.eok.scope, F.nm]; exact hx) (hl.ext k₂.ext) hsy ha₂ hf₂ hP hL hs₃ hD₃ hr₃ hn₃) trivial ⟨rfl, rfl⟩
/-! displays -/
theorem newD {W : Wd} {f : FH} {h : Heap} (b : Bs W f h) (bk : ∀ a o, W.base.get? a = some o → h.get? a = some o) : (h.objs.size == sysModules) = false := by
  obtain ⟨og, _, _, hog, _⟩ := W.g
  have h3 : mainGlobals < h.objs.size := Heap.lt_size (bk _ _ hog)
  rw [beq_eq_false_iff_ne]
  intro q
  rw [q] at h3
  exact absurd h3 (by decide)
theorem HE.dict0 {pos : Pos} : HE W n sc ρ (.Dict [] [] pos) (.freshD []) := by
  intro env A P f s Q E p hQ
  exact wpAny_Dict_empty (hQ _ f _ s.toks (ok_push p.sub) ⟨_, [], 0, rfl, newD p.base p.bk, size_none _, new_none p.sub (size_none _), Heap.get?_push_size _ rfl, .nil, List.nodup_nil⟩)
theorem HE.dict1 {ke ve : Expr} {pos : Pos} {k : Int} {v : V} (hk : HE W n sc ρ ke (.val (.int k))) (hv : HE W n sc ρ ve (.val v)) : HE W n sc ρ (.Dict [some ke] [ve] pos) (.freshD [(k, v)]) := by
  intro env A P f s Q E p hQ
  have hsy := newD p.base p.bk
  have hD0 : (s.heap.push { cls := .type "dict", data := .dict #[] }).get? s.heap.objs.size = some (dobj [] 0) := Heap.get?_push_size _ rfl
  have hfD := new_none p.sub (size_none s.heap)
  have k0 : Ok W f f s.heap (s.heap.push { cls := .type "dict", data := .dict #[] }) := ok_push p.sub
  refine wpAny_Dict_pairs (knd := intKind W.prog W.w) (pairs := [(eval ke env, do let x ← eval ve env; standAt pos; pure x)]) rfl (by simp) (by simp) ?_
  show wpAny W.M A (eval ke env >>= fun kv => holding [kv] (eval ve env >>= fun x => standAt pos >>= fun _ => pure x) >>= fun vv => holding [kv, vv] (pure []) >>= fun r => pure ((kv, vv) :: r)) _ _ _
  refine wpAny_bind (hk env A P f { s with heap := s.heap.push { cls := .type "dict", data := .dict #[] } } _ E (p.step k0) fun x f₁ h₁ tk₁ k₁ r₁ => ?_)
  obtain ⟨t, rfl⟩ := Rep.int_inv r₁
  refine wpAny_bind (wpAny_holding (wpAny_bind (hv env A P f₁ { s with heap := h₁, toks := tk₁ } _ E ((p.step k0).step k₁) fun y f₂ h₂ tk₂ k₂ r₂ => ?_)))
  refine wpAny_bind (wpAny_standAt (wpAny_pure ?_))
  refine wpAny_bind (wpAny_holding (wpAny_pure (wpAny_pure ?_)))
  have kk := k₁.trans k₂
  have hD₂ : h₂.get? s.heap.objs.size = some (dobj [] 0) := kk.ext _ _ hD0 notTab_d
  have hf₂ := kk.none' hfD hD0
  obtain ⟨kv, g1, g2⟩ := (RepD.nil (f := f₂)).dictAt (W := W) hD₂ List.nodup_nil
  cases g1
  refine ⟨[(k, y)], ⟨intKind_is _ _ k t, rfl, trivial⟩, g2.dictOf, fun h₃ hd₃ hs₃ => ?_⟩
  obtain ⟨es', m', hD₃, hr₃, hn₃⟩ := dictOf_rep (kvs := [(k, v)]) hd₃ (.cons r₂ .nil)
  have k3 := k0.trans kk
  refine hQ _ f₂ h₃ _ ⟨fun a o e c => ?_, fun a o e c => ?_, fun all q hq => (k3.tabs all q hq).but ⟨_, hD₂, .d⟩ fun b o hb e => hs₃.extBut b o hb e, k3.le, fun a o e => hs₃.extBut a o (by rintro rfl; rw [hf₂] at e; cases e) (k3.sub a o e), k3.new⟩ ⟨_, es', m', rfl, hsy, size_none _, hf₂, hD₃, hr₃, hn₃⟩
  · exact hs₃.extBut a o (by rintro rfl; exact absurd (Heap.lt_size e) (Nat.lt_irrefl _)) (k3.ext a o e c)
  · obtain ⟨o', h1, h2⟩ := k3.tab a o e c
    exact ⟨o', hs₃.extBut a o' (by rintro rfl; exact absurd (Heap.lt_size e) (Nat.lt_irrefl _)) h1, h2⟩
/-! lengths, comparisons -/
theorem OpC.lenD {kvs : List (Int × V)} (h : kvs.length < 2 ^ 62) : Op W n (fun as => call (.builtin "len") as) [.dict kvs] (.val (.int kvs.length)) :=
  OpC.one fun A f s x Q E hr hs hx hQ => by
    obtain ⟨d, es, m, rfl, hm, hd, hw, hn⟩ := hx.dict_inv
    obtain ⟨kv, h1, h2⟩ := hw.dictAt (W := W) (hs _ _ hd) hn
    have hl := h1.len
    refine call_len_dict (knd := intKind W.prog W.w) hm h2.dictOf (by rw [hl]; exact fit62 h) ?_
    rw [hl]; exact hQ _ f s.heap _ (Ok.refl hs) (.int _ _)
noncomputable def intsD (kvs : List (Int × Int)) : List (Int × V) := kvs.map fun p => (p.1, .int p.2)
theorem RepKV.ints {f : FH} : ∀ {kvs : List (Int × Int)} {b : List (Int × Value)}, RepKV f (intsD kvs) b → ∀ (k : Int) (y : Value), (k, y) ∈ b → ∃ v t, (k, v) ∈ kvs ∧ y = .int v t
  | [], _, h, k, y, hm => by cases h; simp at hm
  | (a, v) :: r, _, h, k, y, hm => by
    cases h with
    | cons h1 h2 =>
      rcases List.mem_cons.mp hm with e | hm
      · cases e
        obtain ⟨t, rfl⟩ := h1.int_inv
        exact ⟨v, t, List.mem_cons_self, rfl⟩
      · obtain ⟨v', t, h3, h4⟩ := RepKV.ints (kvs := r) h2 k y hm
        exact ⟨v', t, List.mem_cons_of_mem _ h3, h4⟩
theorem keq_self {A : Around} {s : Shared} {f : FH} {kvs : List (Int × Int)} {b : List (Int × Value)} (hb : RepKV f (intsD kvs) b) (hn : (kvs.map (·.1)).Nodup) : ∀ {r : List (Int × Int)} {a : List (Int × Value)}, RepKV f (intsD r) a → (∀ p ∈ r, p ∈ kvs) → KeqHits A s b a true
  | [], _, h, _ => by cases h; exact .nil
  | (k, v) :: r, _, h, hm => by
    cases h with
    | cons h1 h2 =>
      obtain ⟨t, rfl⟩ := h1.int_inv
      have hkv : (k, v) ∈ kvs := hm _ List.mem_cons_self
      have hk : k ∈ b.map (·.1) := by
        rw [hb.keys]
        refine List.mem_map.mpr ⟨(k, .int v), List.mem_map.mpr ⟨_, hkv, rfl⟩, rfl⟩
      obtain ⟨⟨k', y⟩, hp, rfl⟩ := List.mem_map.mp hk
      obtain ⟨v', t', h3, rfl⟩ := hb.ints _ _ hp
      have hvv : v' = v := by
        have e1 := lookup_mem_nodup hn h3
        have e2 := lookup_mem_nodup hn hkv
        rw [e1] at e2; exact Option.some.inj e2
      subst hvv
      obtain ⟨j, hj⟩ := List.getElem?_of_mem hp
      have hva : valueAt b k' = some (.int v' t') := valueAt_of_get (by rw [hb.keys]; simpa [intsD, List.map_map, Function.comp_def] using hn) hj
      have hq := keq_flat (A := A) (s := s) (PyProof.V.Flat.int v' t) (PyProof.V.Flat.int v' t')
      rw [show PyData.eqv (.int v') (.int v') = true by simp [PyData.eqv]] at hq
      exact KeqHits.hit hva hq (keq_self hb hn h2 fun p hp => hm p (List.mem_cons_of_mem _ hp))
theorem Op.neDself {kvs : List (Int × Int)} : Op W n (op2 (compareOp .NotEq)) [.dict (intsD kvs), .dict (intsD kvs)] (.val (.bool false)) :=
  Op2.mk fun A f s x y Q E hr hs hx hy hQ => by
    obtain ⟨d, es, m, rfl, hm, hd, hw, hn⟩ := hx.dict_inv
    obtain ⟨d', es', m', rfl, hm', hd', hw', hn'⟩ := hy.dict_inv
    obtain ⟨kv, h1, h2⟩ := hw.dictAt (W := W) (hs _ _ hd) hn
    obtain ⟨kv', h1', h2'⟩ := hw'.dictAt (W := W) (hs _ _ hd') hn'
    have hnn : (kvs.map (·.1)).Nodup := by simpa [intsD, List.map_map, Function.comp_def] using hn
    have := hr.cl
    refine keq_ne (knd := intKind W.prog W.w) (r := true) hm hm' h2.dictOf h2'.dictOf (by omega) (fun _ => keq_self h1' hnn h1 fun p hp => hp) ?_
    rw [h1.len, h1'.len, beq_self_eq_true]
    exact hQ _ f s.heap s.toks (Ok.refl hs) (.bool _)
theorem Op.notinLI {k : Int} {ns : List Int} : Op W n (op2 (compareOp .NotIn)) [.int k, .list (ns.map .int)] (.val (.bool (!(ns.any (· == k))))) :=
  Op2.mk fun A f s x y Q E hr hs hx hy hQ => by
    obtain ⟨t, rfl⟩ := hx.int_inv
    obtain ⟨l, vs, m, rfl, hl, hv⟩ := hy.list_inv
    exact notin_list_ints (isList (hs _ _ hl)) hv.ints (hQ _ f s.heap s.toks (Ok.refl hs) (.bool _))
theorem Op.mulS {x : Str} {k : Int} (h0 : 0 ≤ k) (h1 : k ≤ 1000) (hx : x.length ≤ 1000) : Op W n (op2 (binaryOp .Mult)) [.str x, .int k] (.val (.str (Txt.mul x k))) :=
  Op2.mk fun A f s a b Q E hr hs ha hb hQ => by
    obtain ⟨t, rfl⟩ := ha.str_inv
    obtain ⟨u, rfl⟩ := hb.int_inv
    have e63 : (2:Int)^63 = 9223372036854775808 := by decide
    refine SB.mul ⟨?_, fun h2 _ h3 => ?_, fun h2 _ => ?_⟩ fun t' j => hQ _ f s.heap _ (Ok.refl hs) (.str _ _)
    · simp; omega
    · have : (9223372036854775807 : Int) / 1000 ≤ (2 ^ 63 - 1) / k := by
        rw [e63]
        rw [Int.le_ediv_iff_mul_le (by omega)]
        have : (9223372036854775807 : Int) / 1000 * k ≤ 9223372036854775807 / 1000 * 1000 := Int.mul_le_mul_of_nonneg_left h1 (by decide)
        omega
      omega
    · have h4 : x.length * k.toNat ≤ 1000 * 1000 := Nat.mul_le_mul hx (by omega)
      simp [Builtin.Str.tooLong, sizeLine_eq]; omega
/-! len(set(x)) -/
theorem HE.lenSet {x y : Str} {np np' pos pos' : Pos} {e : Expr} {ns : List Int} (F : FC sc nms gl) (hx : x ∈ gl) (hy : y ∈ gl) (hb : Bi W x (.builtin "len")) (hb' : Bi W y (.type "set")) (he : HE W n sc ρ e (.val (.list (ns.map .int)))) (hsz : ns.length ≤ 100)
    (hst : ∀ env, starEach [e] env = (false, eval e env) :: starEach [] env := by intro _; rfl) :
    HE W n sc ρ (.Call (.Name x np) [.Call (.Name y np') [e] [] pos'] [] pos) (.val (.int (firstMet (fun i => ns.getD i 0) ns.length).length)) := by
  have hin : JX W n sc ρ (fun env => eval (.Call (.Name y np') [e] [] pos') env) (fun f h f' h' z => ∃ a S, z = .ref a ∧ h'.SetOf (intKind W.prog W.w) a S (firstMet (fun i => ns.getD i 0) ns.length).length) := by
    refine JX.callT (F.gl y hy) hb' (HA.cons he HA.nil hst) ?_ (fun _ q => q) hst (by intro _; rfl)
    intro A f s zs Q E hr hb hs hv hQ
    obtain ⟨z, rfl, hz⟩ := hv.one_inv
    obtain ⟨l, vs, m, rfl, hl, hw⟩ := hz.list_inv
    have hlen : vs.toArray.size = ns.length := by rw [hw.arr]; simp
    refine call_set_list (ns := ns) hr.handled (isList (hs _ _ hl)) (by simpa using hw.ints) (by rw [hlen]; show ns.length + 1 < 4096; omega) fun h' tk hS hk => ?_
    rw [hlen] at hS
    exact hQ _ f h' tk (Ok.heap hs fun b o e => hk b o (Heap.lt_size e) e) ⟨_, _, rfl, hS⟩
  intro env A P f s Q E p hQ
  refine Call_ (HX.boot (W := W) (n := n) (ρ := ρ) (F.gl x hx) hb env A P f s _ E p fun y₁ f₁ h₁ tk₁ k₁ e₁ => ?_)
  subst e₁
  refine callWith_builtin1 (args_cons (hin env A P f₁ { s with heap := h₁, toks := tk₁ } _ E (p.step k₁) fun z f₂ h₂ tk₂ k₂ r₂ => args_nil ?_) rfl) rfl rfl
  obtain ⟨a, S, rfl, o, es, ep, t, ho, hex, hd, _, _, hsb, hfit, hn⟩ := r₂
  refine call_len_set (s := { s with heap := h₂, toks := tk₂ }) ho hex hd hfit ?_ ?_
  · have e63 : (2:Int)^63 = 9223372036854775808 := by decide
    have : (firstMet (fun i => ns.getD i 0) ns.length).length ≤ ns.length := firstMet_length_le _ _
    omega
  · have := hQ (.int es.size (tk₂ + 1)) f₂ h₂ (tk₂ + 1 + 1) (k₁.trans k₂) (by rw [hn]; exact .int _ _)
    exact this
end Mine
end

/-! part M26 -/
section
open PySem PySem.W PyProof.Rows PySem.Calls
set_option maxRecDepth 100000
namespace Mine
variable {W : Wd} {n : Nat} {sc : Scope} {ρ : List Bd} {own : Str → Prop} {nms gl : List Str} {Post : Out → List Bd → Prop}

/-! raise ZeroDivisionError -/
theorem nameB {env : Env} {A : Around} {s : Shared} {x : Str} {pos : Pos} {v : Value} {Q : Value → Shared → Prop} {E : Value → Shared → Prop} (eok : EnvOk env sc) (bk : ∀ a o, W.base.get? a = some o → s.heap.get? a = some o)
    (hg : isG sc x = true) (hb : Bi W x v) (h : Q v s) : wpAny W.M A (eval (.Name x pos) env) Q E s := by
  obtain ⟨h1, h2⟩ := isG_kind eok hg
  refine PySem.Calls.Name_function_global (by rw [eok.scope]; exact eok.kind) h1 (PySem.Calls.loadGlobal_builtin (mg := W.mg) (mb := W.mb) ?_ hb.free ?_ ((W.boot x hb.ne).trans hb.boot) h) h2
  · rw [eok.globals]; exact W.g.keeps bk
  · rw [eok.builtins]; exact W.b.keeps bk
noncomputable abbrev ZDE : String := "ZeroDivisionError"
theorem raise_zde {prog : Program} {w : World} {A : Around} {E : Value → Shared → Prop} {s : Shared} {env : Env} {x : Str} {np pos : Pos} {Q : Flow → Shared → Prop} (hh : A.handled = none)
    (hx : wpAny (model prog w) A (eval (.Name x np) env) (fun v s₁ => v = .type ZDE ∧ s₁ = s) E s)
    (h : ∀ h' e, Heap.MadeExc s.heap h' e ZDE [] → E (.ref e) { s with heap := h' }) :
    wpAny (model prog w) A (exec (.Raise (some (.Name x np)) none pos) env) Q E s := by
  have hc := excClass_ZeroDivisionError
  have hself : isSubtype (.type ZDE) (.type ZDE) = pure true := PySem.F.self_ZeroDivisionError
  show wpAny (model prog w) A (do standAt pos; raiseStmt env (some (do let v ← eval (.Name x np) env; standAt pos; pure v)) none) Q E s
  refine wpAny_bind (wpAny_standAt ?_)
  unfold raiseStmt
  dsimp only
  refine wpAny_bind (wpAny_bind (wpAny_mono hx (fun v s₁ h₁ => wpAny_bind (wpAny_standAt (wpAny_pure ?_))) fun _ _ e => e))
  obtain ⟨rfl, hs₁⟩ := h₁
  subst s₁
  refine wpAny_bind (wpAny_pure ?_)
  dsimp only
  refine wpAny_bind (wpAny_holding ?_)
  unfold excFromValue isExcClass
  refine wpAny_bind (wpAny_bind (wpAny_pure ?_))
  simp only [if_true]
  rw [hc.base]
  refine wpAny_pure ?_
  simp only [if_true]
  refine wpAny_bind (wpAny_call_exc PySem.F.excCall_ZeroDivisionError (fun h' e hm => ?_) (Nat.zero_le _))
  have hn := hm.newExc
  obtain ⟨ob, t, he, hcls, hd⟩ := hn.there
  have hT : ({ s with heap := h' } : Shared).TypeIs (.ref e) ZDE := ⟨ob, he, hcls⟩
  refine wpAny_bind (wpAny_isInstance hT hc.base ?_)
  simp only [Bool.not_true, Bool.false_eq_true, if_false]
  refine wpAny_pure ?_
  first | (refine wpAny_bind (m := isType (.type ZDE)) (wpAny_pure ?_)) | (refine wpAny_bind (wpAny_pure ?_))
  first | (rw [if_pos rfl]) | (simp only [if_true]) | dsimp only
  refine wpAny_bind (wpAny_holding ?_)
  unfold raisedFor
  first | (simp only [Bool.false_eq_true, if_false]) | (rw [if_neg (by decide)]) | skip
  first | (refine wpAny_bind (wpAny_typeOf hT ?_)) | (refine wpAny_bind ?_; refine wpAny_bind (wpAny_typeOf hT ?_))
  refine wpAny_bind (call_issubclass (issubclass_self hc hself) ?_)
  first | (refine wpAny_bind (wpAny_truthy_bool ?_)) | (refine wpAny_truthy_bool ?_) | (dsimp only [wants]; first | (refine wpAny_bind (wpAny_truthy_bool ?_)) | (refine wpAny_truthy_bool ?_))
  first | (rw [if_pos rfl]) | (simp only [if_true]) | skip
  refine wpAny_pure ?_
  unfold setFlight raiseNew
  refine wpAny_bind (wpAny_bind (wpAny_field (i := 1) (x := Value.none) he hd rfl ?_))
  rw [if_neg (by decide)]
  refine wpAny_pure (wpAny_bind (wpAny_handled ?_))
  rw [hh]
  first
    | exact wpAny_throw (h h' e hm)
    | exact wpAny_bind (wpAny_pure (wpAny_throw (h h' e hm)))
/-! frames -/
noncomputable def Frames (h : Heap) (l : List Env) : Prop := ∀ e ∈ l, e.scope.kind ≠ .module ∧ ∃ L m, e.frame = some L ∧ h.Ns L m
theorem Frames.step {f f' : FH} {h h' : Heap} {l : List Env} (F : Frames h l) (k : Ok W f f' h h') : Frames h' l := fun e he => let ⟨a, L, m, b, c⟩ := F e he; ⟨a, L, m, b, Ns.keepsT c k.ext⟩
theorem Frames.fun {h : Heap} {S : List Addr} : ∀ {l : List Env}, Frames h l → (∀ e ∈ l, ∀ L, e.frame = some L → L ∈ S) → h.FunFrames (hideAll h S) l
  | [], _, _ => trivial
  | e :: r, F, hS => by
    obtain ⟨a, L, m, b, o, es, ep, ho, hd, _⟩ := F e List.mem_cons_self
    exact ⟨a, ⟨L, o, b, hideAll_none _ (hS e List.mem_cons_self L b), ho, fun vs q => by rw [hd] at q; cases q⟩, Frames.fun (fun e he => F e (List.mem_cons_of_mem _ he)) fun e he => hS e (List.mem_cons_of_mem _ he)⟩
theorem frames_in {l : List Env} {S : List Addr} (h : ∀ a ∈ l.filterMap (·.frame), a ∈ S) : ∀ e ∈ l, ∀ L, e.frame = some L → L ∈ S := fun e he L hL => h L (List.mem_filterMap.mpr ⟨e, he, hL⟩)
/-- a call that raises at once -/
theorem callRaise {A : Around} {f : FH} {s : Shared} {xs : List Value} {Q : Value → Shared → Prop} {E : Value → Shared → Prop} {a : Addr} {o : Obj} {pm cd doc : Value} {x xn : Str} {np rp ip : Pos} {t : Expr} {orelse rest : List Stmt} {params : Arguments} {scope : Scope} {names : List Str} {vs : List V} {l : List Env}
    (h2 : W.base.get? a = some o) (h3 : o.data = .func (docDef x params (.If t [.Raise (some (.Name xn np)) none rp] orelse ip :: rest) scope pm cd doc)) (h4 : W.base.CodeRec cd x) (ok : FnOk x params (.If t [.Raise (some (.Name xn np)) none rp] orelse ip :: rest) scope names) (hlen : vs.length = names.length)
    (hr : Room (n + 1) A) (hb : Bs W f s.heap) (hs : ∀ a o, f a = some o → s.heap.get? a = some o) (hv : Reps f vs xs)
    (ht : HB W n scope (vs.map .imm ++ List.replicate ((vnames scope).length - names.length) .unb) t true) (hg : isG scope xn = true) (hbi : Bi W xn (.type ZDE)) (hfr : A.frames = some l) (hF : Frames s.heap l)
    (hE : ∀ h₂ f₂ L' h' e t0 tk, Ok W f f₂ s.heap h₂ → s.heap.get? L' = none → (∃ o, h₂.get? L' = some o ∧ NF o) → Heap.FlyingW (hideAll h₂ (L' :: l.filterMap (·.frame))) l e (.type ZDE) (.ref t0) h' → h'.TupAt t0 [] → h₂.UpToSlots h' → E (.ref e) { s with heap := h', toks := tk }) :
    wpAny W.M A (call (.ref a) xs) Q E s := by
  refine callE h2 h3 h4 ok hlen hr hb hs hv fun env h₁ tk ec eq ef keep hnone st => ?_
  refine wpAny_execs_cons (wpAny_If (ht env _ s.heap.get? f { s with heap := h₁, toks := tk } _ _ st.pre fun y f₁ h₂ tk₂ k₂ hy => ?_))
  subst hy
  have st₂ := st.step k₂
  have k : Ok W f f₁ s.heap h₂ := (Ok.heap hs keep).trans k₂
  show wpAny W.M _ (execs [.Raise (some (.Name xn np)) none rp] env) _ _ _
  refine wpAny_execs_cons (raise_zde (s := { s with heap := h₂, toks := tk₂ }) st.pre.room.handled (nameB st₂.pre.eok st₂.pre.bk hg hbi ⟨rfl, rfl⟩) fun h₃ e hm => ?_)
  obtain ⟨m, hns⟩ := st₂.ns
  have hF₂ : Frames h₂ (env :: l) := fun e he => by
    rcases List.mem_cons.mp he with rfl | he
    · exact ⟨by rw [st.pre.eok.scope, st.pre.eok.kind]; decide, _, m, ef, hns⟩
    · exact (hF.step k) e he
  refine wpAny_leaves_madeW (s := { s with heap := h₃, toks := tk₂ }) (base := hideAll h₂ (env.locals :: l.filterMap (·.frame))) (h := h₂) (env := env) (outer := l) (Around.frames_deeper hfr) ef (fun b o q => of_hideAll _ q)
    (hF₂.fun (frames_in fun a ha => by rw [List.filterMap_cons, ef] at ha; exact ha)) hm.of fun h' t0 hfl ht0 _ hup => ?_
  exact hE h₂ f₁ env.locals h' e t0 tk₂ k hnone (NF.ns hns) hfl ht0 ((Heap.UpToSlots.of_keeps hm.keeps).trans hup)
end Mine
end

/-! part M27 -/
section
open PySem PySem.W PyProof.Rows PySem.Calls
set_option maxRecDepth 100000
namespace Mine
variable {W : Wd} {n : Nat} {sc : Scope} {ρ : List Bd} {own : Str → Prop} {nms gl : List Str} {Post : Out → List Bd → Prop}

/-- all but S is kept; l's objects up to their slots -/
structure OkL (W : Wd) (S l : List Addr) (f : FH) (h h' : Heap) : Prop where
  ext : ∀ a o, h.get? a = some o → ¬ IsTab o → a ∉ S → h'.get? a = some o
  tab : ∀ a o, h.get? a = some o → IsTab o → ∃ o', h'.get? a = some o' ∧ IsTab o'
  tabs : (∀ q ∈ W.tabs, Tab q.2.2 h q.2.1) → ∀ q ∈ W.tabs, Tab q.2.2 h' q.2.1
  sub : ∀ a o, f a = some o → h'.get? a = some o
  slot : ∀ a ∈ l, ∀ o, h.get? a = some o → ∃ sl, h'.get? a = some { o with slots := sl }
theorem try_zero {env : Env} {A : Around} {P f : FH} {s : Shared} {Q : Flow → Shared → Prop} {E : Value → Shared → Prop} {dn zn xn strn fault told : Str} {np tp sp cp zp fp stp scp bop rp hp tryp xp' rp' ip' kp : Pos} {kk : Nat} {t e : Expr} {es : List Expr} {orelse rest : List Stmt} {a : Addr} {o : Obj} {pm cd doc : Value}
    {params : Arguments} {scope : Scope} {names : List Str} {vs : List V} {l : List Env}
    (st : St (fun _ => True) W (n + 1) sc ρ env A P f s.heap) (hfr : A.frames = some (env :: l)) (ef : env.frame = some env.locals) (hF : Frames s.heap l) (hl : ∀ a ∈ l.filterMap (·.frame), f a = none) (hne : env.locals ∉ l.filterMap (·.frame))
    (hg : isG sc dn = true) (h1 : W.mg dn = some (.ref a)) (h2 : W.base.get? a = some o) (h3 : o.data = .func (docDef dn params (.If t [.Raise (some (.Name xn xp')) none rp'] orelse ip' :: rest) scope pm cd doc)) (h4 : W.base.CodeRec cd dn) (ok : FnOk dn params (.If t [.Raise (some (.Name xn xp')) none rp'] orelse ip' :: rest) scope names) (hlen : vs.length = names.length)
    (hargs : HA W (n + 1) sc ρ cp (e :: es) vs) (ht : HB W n scope (vs.map .imm ++ List.replicate ((vnames scope).length - names.length) .unb) t true)
    (hgx : isG scope xn = true) (hbx : Bi W xn (.type ZDE)) (hgz : isG sc zn = true) (hbz : Bi W zn (.type ZDE)) (hgs : isG sc strn = true) (hbs : Bi W strn (.type "str")) (hkf : sc.names.lookup fault = some .local) (hfv : fault ∈ vnames sc)
    (hQ : ∀ h' tk t, OkL W (env.locals :: l.filterMap (·.frame)) (l.filterMap (·.frame)) f s.heap h' → Q (.ret (.str (("none" : Str) ++ Str.empty) t)) { s with heap := h', toks := tk })
    (he : ∀ env, starEach (e :: es) env = (false, eval e env) :: starEach es env := by intro _; rfl)
    (hsw : ∀ env, env.scope = sc → swapsWith (.Call (.Name dn np) (e :: es) [] cp) (some (.Name told tp)) sp.line env = pure false := by intro _ _; rfl) :
    wpAny W.M A (exec (.Try [.Assign [.Name told tp] (.Call (.Name dn np) (e :: es) [] cp) sp] [.ExceptHandler (some (.Name zn zp)) (some fault) [.Return (some (.BinOp (.Constant (.str "none") kk kp) .Add (.Call (.Name strn stp) [.Name fault fp] [] scp) bop)) rp] hp] [] [] tryp) env) Q E s := by
  have hk : env.kindOf fault = some .local := by show env.scope.names.lookup fault = _; rw [st.pre.eok.scope]; exact hkf
  have hfun : env.scope.kind = .function := by rw [st.pre.eok.scope]; exact st.pre.eok.kind
  refine wpAny_Try_except ?_
  refine wpAny_execs_cons (wpAny_Assign_Name ?_ (hsw env st.pre.eok.scope))
  refine Call_ (HX.glob (W := W) (n := n + 1) (ρ := ρ) hg h1 env A P f s _ _ st.pre fun y f₁ h₁ tk₁ k₁ e₁ => ?_)
  subst e₁
  refine callWith_def h3 (hargs env A P f₁ { s with heap := h₁, toks := tk₁ } _ _ (st.pre.step k₁) fun xs f₂ h₂ tk₂ k₂ r₂ => ?_) (he _)
  have p2 := (st.pre.step k₁).step k₂
  have k12 := k₁.trans k₂
  refine ⟨p2.bk _ _ h2, ?_⟩
  obtain ⟨m, hns⟩ := st.ns
  have hFe : Frames s.heap (env :: l) := fun e he => by
    rcases List.mem_cons.mp he with rfl | he
    · exact ⟨by rw [hfun]; decide, _, m, ef, hns⟩
    · exact hF e he
  refine callRaise (s := { s with heap := h₂, toks := tk₂ }) h2 h3 h4 ok hlen p2.room p2.base p2.sub r₂ ht hgx hbx hfr (hFe.step k12) fun h₃ f₃ L' h' x t0 tk k₃ hL' hnf hfl ht0 hup => ?_
  have k : Ok W f f₃ s.heap h₃ := k12.trans k₃
  generalize hFR : L' :: (env :: l).filterMap (·.frame) = FR at hfl
  have hfm : (env :: l).filterMap (·.frame) = env.locals :: l.filterMap (·.frame) := by rw [List.filterMap_cons, ef]
  rw [hfm] at hFR
  have nf : ∀ b ∈ FR, ∃ o, h₃.get? b = some o ∧ NF o := fun b hb => by
    rw [← hFR] at hb
    rcases List.mem_cons.mp hb with rfl | hb
    · exact hnf
    · rw [← hfm] at hb
      obtain ⟨e, he, hb⟩ := List.mem_filterMap.mp hb
      obtain ⟨_, L, m, h5, h6⟩ := (hFe.step k) e he
      rw [h5] at hb; cases hb
      exact NF.ns h6
  have fno : ∀ b o, f b = some o → b ∉ FR := fun b o e hb => by
    rw [← hFR] at hb
    rcases List.mem_cons.mp hb with rfl | hb
    · have := k12.gone hL'; rw [st.pre.sub _ _ e] at this; cases this
    · rcases List.mem_cons.mp hb with rfl | hb
      · rw [st.locF] at e; cases e
      · rw [hl b hb] at e; cases e
  have keep : ∀ {g : Heap}, (hideAll h₃ FR).StaysIn g → ∀ b o, b ∉ FR → h₃.get? b = some o → g.get? b = some o := fun st b o hb e => st b o (hideAll_get _ e hb)
  have bkg : ∀ {g : Heap}, (hideAll h₃ FR).StaysIn g → ∀ b o, W.base.get? b = some o → g.get? b = some o := fun st' b o e => keep st' b o (fno b o (st.pre.base.le b o e)) (k.sub b o (k.le b o (st.pre.base.le b o e)))
  refine wpAny_looks_onW hfr ef hfl fun h₄ held₄ up₄ => ?_
  refine wpAny_landsW held₄ fun h₅ fl₅ up₅ => ?_
  obtain ⟨ob, hob, hobc⟩ := fl₅.there
  refine wpAny_handleBy_builtin_as (X := ZDE) (T := ZDE) (b := true) PySem.F.isExc_ZeroDivisionError PySem.F.notTuple_ZeroDivisionError PySem.F.self_ZeroDivisionError ?_
  refine nameB (s := { s with heap := h₅, toks := tk }) st.pre.eok (bkg fl₅.1) hgz hbz ⟨rfl, ⟨ob, hob, hobc⟩, ?_⟩
  refine lands_againW fl₅ fun h₆ fl₆ up₆ => ?_
  have hns₃ : h₃.Ns env.locals m := Ns.keepsT hns k.ext
  have up : h₃.UpToSlots h₆ := hup.trans ((up₄.trans up₅).trans up₆)
  have hns₆ := up.ns hns₃
  refine wpAny_storeName_local hk hns₆ (fun h₇ hns₇ hs₇ => ?_) (by rw [hfun]; rfl)
  obtain ⟨oe, ws, hoe, hoec, hoed, hoe0⟩ := fl₆.first
  obtain ⟨ot, nt, hot, hotc, hotd⟩ := ht0.of_slots ((up₄.trans up₅).trans up₆)
  obtain ⟨oL, es', ep', hoL, hdL, _⟩ := hns₆
  have hxL : x ≠ env.locals := by rintro rfl; rw [hoe] at hoL; cases hoL; rw [hoed] at hdL; cases hdL
  have htL : t0 ≠ env.locals := by rintro rfl; rw [hot] at hoL; cases hoL; rw [hotd] at hdL; cases hdL
  have bk₇ : ∀ b o, W.base.get? b = some o → h₇.get? b = some o := fun b o e => hs₇.extBut b o (by rintro rfl; have := st.pre.base.le _ _ e; rw [st.locF] at this; cases this) (bkg fl₆.1 b o e)
  have X₇ : h₇.ExcAt x ZDE (.ref t0) := ⟨oe, ws, hs₇.extBut _ _ hxL hoe, hoec, hoed, hoe0⟩
  have T₇ : h₇.TupAt t0 [] := ⟨ot, nt, hs₇.extBut _ _ htL hot, hotc, hotd⟩
  have hu := st.pre.room.cl
  refine wpAny_execs_cons (wpAny_Return_some (wpAny_BinOp (PySem.Calls.Constant_str ?_)))
  refine Call_ (nameB st.pre.eok bk₇ hgs hbs ?_)
  refine PyProof.Rows.callWith_type1 (args_cons (wpAny_Name (wpAny_loadName_local (v := .ref x) hfun hk hns₇ (if_pos rfl) ?_) (st.pre.eok.plain fault hfv).1) (by rfl)) (by rfl) (by rfl)
  refine args_nil ?_
  refine PySem.P.str_of_exc_none PySem.F.excStr_ZeroDivisionError (show (A.mark (some (.ref x))).units + 2 < cLine from by show A.units + 2 < cLine; omega) (t0 := t0) ?_ ?_ ?_
  · exact X₇
  · exact T₇
  refine PyProof.Rows.add_str (fun t' tk' => ?_) (by decide)
  refine wpAny_nameGoes (m := _) hk hns₇ (by rw [hfun]; rfl) fun h₈ m₈ hns₈ hs₈ => ?_
  refine hQ h₈ _ t' ?_
  have hLF : env.locals ∈ FR := by rw [← hFR]; simp
  have fin : ∀ b o, b ∉ FR → h₃.get? b = some o → h₈.get? b = some o := fun b o hb e => by
    have hbL : b ≠ env.locals := fun q => hb (q ▸ hLF)
    exact hs₈.extBut b o hbL (hs₇.extBut b o hbL (keep fl₆.1 b o hb e))
  have notL' : ∀ b o, s.heap.get? b = some o → b ≠ L' := fun b o e q => by subst q; have := k12.gone hL'; rw [e] at this; cases this
  refine ⟨fun b o e ht hb => ?_, fun b o e ht => ?_, fun all q hq => (k.tabs all q hq).off nf fin, fun b o e => fin b o (fno b o e) (k.sub b o (k.le b o e)), fun b hb o e => ?_⟩
  · refine fin b o (fun hm => ?_) (k.ext b o e ht)
    rw [← hFR] at hm
    rcases List.mem_cons.mp hm with q | hm
    · exact notL' b o e q
    · exact hb hm
  · obtain ⟨o', e', ht'⟩ := k.tab b o e ht
    refine ⟨o', fin b o' (fun hm => ?_) e', ht'⟩
    obtain ⟨o'', e'', nf'⟩ := nf b hm
    rw [e'] at e''; cases e''
    exact nf'.tab ht'
  · obtain ⟨e₀, he₀, hb₀⟩ := List.mem_filterMap.mp hb
    obtain ⟨_, L, m', h5, o', es'', ep'', h6, h7, _⟩ := hF e₀ he₀
    rw [h5] at hb₀; cases hb₀
    rw [e] at h6; cases h6
    have hnt : ¬ IsTab o := fun ⟨ps, q, _⟩ => by subst q; cases h7
    obtain ⟨sl, hsl⟩ := up b o (k.ext b o e hnt) (fun vs q => by rw [h7] at q; cases q)
    have hbL : b ≠ env.locals := fun q => hne (q ▸ hb)
    exact ⟨sl, hs₈.extBut b _ hbL (hs₇.extBut b _ hbL hsl)⟩
end Mine
end

/-! part M28 -/
section
open PySem PySem.W PyProof.Rows PySem.Calls
set_option maxRecDepth 100000
namespace Mine
variable {W : Wd} {n : Nat} {sc : Scope} {ρ : List Bd} {own : Str → Prop} {nms gl : List Str} {Post : Out → List Bd → Prop} {qq : Env → Around → Prop}

noncomputable abbrev frs (l : List Env) : List Addr := l.filterMap (·.frame)
/-- a call that gives a str, though an exception went by: the frames' slots are touched -/
noncomputable def CallS (W : Wd) (n : Nat) (sn : Str) (vs : List V) (x : Str) : Prop := ∃ fa o fd, W.mg sn = some (.ref fa) ∧ W.base.get? fa = some o ∧ o.data = .func fd ∧
  ∀ A f s xs (Q : Value → Shared → Prop) (E : Value → Shared → Prop) l, Room n A → Bs W f s.heap → (∀ a o, f a = some o → s.heap.get? a = some o) → Reps f vs xs → A.frames = some l → Frames s.heap l → (∀ a ∈ frs l, f a = none) →
    (∀ h' tk t, OkL W (frs l) (frs l) f s.heap h' → Q (.str x t) { s with heap := h', toks := tk }) → wpAny W.M A (call (.ref fa) xs) Q E s
theorem none_str : ("none" : Str) ++ Str.empty = ("none" : Str) := by decide
theorem CallS.of {sn : Str} {params' : Arguments} {scope' : Scope} {names' : List Str} {us : List V} {post : List Stmt}
    {dn zn xn strn fault told : Str} {np tp sp cp zp fp stp scp bop rp hp tryp xp' rp' ip' kp : Pos} {kk : Nat} {t e : Expr} {es : List Expr} {orelse rest : List Stmt} {params : Arguments} {scope : Scope} {names : List Str} {vs : List V}
    (d' : DefAt W sn params' (.Try [.Assign [.Name told tp] (.Call (.Name dn np) (e :: es) [] cp) sp] [.ExceptHandler (some (.Name zn zp)) (some fault) [.Return (some (.BinOp (.Constant (.str "none") kk kp) .Add (.Call (.Name strn stp) [.Name fault fp] [] scp) bop)) rp] hp] [] [] tryp :: post) scope')
    (ok' : FnOk sn params' (.Try [.Assign [.Name told tp] (.Call (.Name dn np) (e :: es) [] cp) sp] [.ExceptHandler (some (.Name zn zp)) (some fault) [.Return (some (.BinOp (.Constant (.str "none") kk kp) .Add (.Call (.Name strn stp) [.Name fault fp] [] scp) bop)) rp] hp] [] [] tryp :: post) scope' names') (hlen' : us.length = names'.length)
    (d : DefAt W dn params (.If t [.Raise (some (.Name xn xp')) none rp'] orelse ip' :: rest) scope) (ok : FnOk dn params (.If t [.Raise (some (.Name xn xp')) none rp'] orelse ip' :: rest) scope names) (hlen : vs.length = names.length)
    (hg : isG scope' dn = true) (hargs : HA W (n + 1) scope' (us.map .imm ++ List.replicate ((vnames scope').length - names'.length) .unb) cp (e :: es) vs) (ht : HB W n scope (vs.map .imm ++ List.replicate ((vnames scope).length - names.length) .unb) t true)
    (hgx : isG scope xn = true) (hbx : Bi W xn (.type ZDE)) (hgz : isG scope' zn = true) (hbz : Bi W zn (.type ZDE)) (hgs : isG scope' strn = true) (hbs : Bi W strn (.type "str")) (hkf : scope'.names.lookup fault = some .local) (hfv : fault ∈ vnames scope')
    (he : ∀ env, starEach (e :: es) env = (false, eval e env) :: starEach es env := by intro _; rfl)
    (hsw : ∀ env, env.scope = scope' → swapsWith (.Call (.Name dn np) (e :: es) [] cp) (some (.Name told tp)) sp.line env = pure false := by intro _ _; rfl) : CallS W (n + 2) sn us "none" := by
  obtain ⟨a', o', pm', cd', doc', g1, g2, g3, g4⟩ := d'
  obtain ⟨a, o, pm, cd, doc, h1, h2, h3, h4⟩ := d
  refine ⟨a', o', _, g1, g2, g3, fun A f s xs Q E l hr hb hs hv hfr hF hl hQ => ?_⟩
  refine callE g2 g3 g4 ok' hlen' hr hb hs hv fun env h₁ tk ec eq ef keep hnone st => ?_
  have hne : env.locals ∉ frs l := fun hm => by
    obtain ⟨e₀, he₀, hb₀⟩ := List.mem_filterMap.mp hm
    obtain ⟨_, L, m, h5, o, es, ep, h6, _⟩ := hF e₀ he₀
    rw [h5] at hb₀; cases hb₀
    rw [hnone] at h6; cases h6
  have hF₁ : Frames h₁ l := fun e he => let ⟨x, L, m, y, z⟩ := hF e he; ⟨x, L, m, y, z.keeps keep⟩
  refine wpAny_execs_cons (try_zero (s := { s with heap := h₁, toks := tk }) st (Around.frames_deeper hfr) ef hF₁ hl hne hg h1 h2 h3 h4 ok hlen hargs ht hgx hbx hgz hbz hgs hbs hkf hfv (fun h' tk' t' k => ?_) he hsw)
  rw [none_str]
  have off : ∀ b o, s.heap.get? b = some o → b ≠ env.locals := fun b o e q => by rw [q, hnone] at e; cases e
  refine hQ h' tk' t' ⟨fun b o e nt hb => k.ext b o (keep b o e) nt fun hm => ?_, fun b o e ht => k.tab b o (keep b o e) ht, fun all => k.tabs fun q hq => (all q hq).keeps keep, k.sub, fun b hb o e => k.slot b hb o (keep b o e)⟩
  rcases List.mem_cons.mp hm with q | hm
  · exact off b o e q
  · exact hb hm
theorem St.okL {env : Env} {A : Around} {P f : FH} {h h' : Heap} (st : St own W n sc ρ env A P f h) (k : OkL W [env.locals] [env.locals] f h h') : St own W n sc ρ env A P f h' := by
  obtain ⟨m, hns⟩ := st.ns
  have hns' : ∀ m, h.Ns env.locals m → h'.Ns env.locals m := fun m hn => by
    obtain ⟨o, es, ep, ho, hd, r⟩ := hn
    obtain ⟨sl, hs⟩ := k.slot _ (List.mem_singleton.mpr rfl) o ho
    exact ⟨_, es, ep, hs, hd, r⟩
  have nsl : ∀ a o, h.get? a = some o → (∀ es ep, o.data ≠ .dict es ep) → a ∉ [env.locals] := fun a o e hn hm => by
    rw [List.mem_singleton.mp hm] at e
    obtain ⟨o', es, ep, ho, hd, _⟩ := hns
    rw [e] at ho; cases ho; exact hn _ _ hd
  have hcell : ∀ c o, h.IsCell c o → h'.IsCell c o := fun c o ⟨ob, ho, hd⟩ => ⟨ob, k.ext c ob ho (notTab_cell hd) (nsl c ob ho fun es ep q => by rw [hd] at q; cases q), hd⟩
  have lk : ∀ y o, Look env h y o → Look env h' y o := fun y o hl => by
    rcases hl with ⟨a, mm, hn, hm⟩ | ⟨a, c, hc, hv⟩
    · exact .inl ⟨a, mm, hns' mm hn, hm⟩
    · exact .inr ⟨a, c, hc, hcell c _ hv⟩
  refine { pre := ⟨st.pre.eok, st.pre.room, ⟨st.pre.base.le, st.pre.base.tf, k.tabs st.pre.base.tabs⟩, k.sub, ?_⟩, pin := ?_, ns := ⟨m, hns' m hns⟩, locP := st.locP, locF := st.locF, cell := ?_, apart := st.apart, len := st.len, capt := st.capt }
  · intro j b e
    obtain ⟨y, o, h1, h2, h3⟩ := st.pre.vars j b e
    refine ⟨y, o, h1, lk _ _ h2, ?_⟩
    cases b with
    | unb => exact h3
    | imm v => exact h3
    | mutL zs =>
      obtain ⟨b, vs, m, q1, q3, q4⟩ := h3
      exact ⟨b, vs, m, q1, k.ext b _ q3 notTab_l (nsl b _ q3 fun es ep q => by cases q), q4⟩
    | mutD zs =>
      obtain ⟨b, vs, m, q1, q0, q3, q4, q5, q6, q7, q8⟩ := h3
      exact ⟨b, vs, m, q1, q0, k.ext b _ q3 notTab_d (fun hm => q8 (List.mem_singleton.mp hm)), q4, q5, q6, q7, q8⟩
  · intro a o e
    have hna : a ∉ [env.locals] := fun hm => by rw [List.mem_singleton.mp hm, st.locP] at e; cases e
    exact ⟨fun c => k.ext a o ((st.pin a o e).1 c) c hna, fun c => by obtain ⟨o', h1, h2⟩ := (st.pin a o e).2 c; exact k.tab a o' h1 h2⟩
  · intro y c h0 h1 h2
    obtain ⟨b1, b2, o, b3⟩ := st.cell y c h0 h1 h2
    exact ⟨b1, b2, o, hcell c o b3⟩
/-- the frame that is called by nothing but the claim -/
noncomputable def qTop (env : Env) (A : Around) : Prop := A.frames = some [env] ∧ env.frame = some env.locals
theorem callS_run {env : Env} {A : Around} {P f : FH} {s : Shared} {sn x : Str} {np cp : Pos} {e : Expr} {es : List Expr} {vs : List V} {Q : Value → Shared → Prop} {E : Value → Shared → Prop} (hq : qTop env A) (st : St (fun _ => True) W n sc ρ env A P f s.heap)
    (hg : isG sc sn = true) (hc : CallS W n sn vs x) (ha : HA W n sc ρ cp (e :: es) vs)
    (hQ : ∀ f' h' tk t, Gr P f f' → St (fun _ => True) W n sc ρ env A P f' h' → Q (.str x t) { s with heap := h', toks := tk })
    (he : ∀ env, starEach (e :: es) env = (false, eval e env) :: starEach es env) : wpAny W.M A (eval (.Call (.Name sn np) (e :: es) [] cp) env) Q E s := by
  obtain ⟨fa, o, fd, h1, h2, h3, hop⟩ := hc
  refine Call_ (HX.glob (W := W) (n := n) (ρ := ρ) hg h1 env A P f s _ E st.pre fun y f₁ h₁ tk₁ k₁ e₁ => ?_)
  subst e₁
  refine callWith_def h3 (ha env A P f₁ { s with heap := h₁, toks := tk₁ } _ E (st.pre.step k₁) fun xs f₂ h₂ tk₂ k₂ r₂ => ?_) (he _)
  have k := k₁.trans k₂
  have st₂ := st.step k
  obtain ⟨m, hns⟩ := st₂.ns
  have hl : frs [env] = [env.locals] := by simp [frs, List.filterMap_cons, hq.2]
  refine ⟨st₂.pre.bk _ _ h2, hop A f₂ { s with heap := h₂, toks := tk₂ } xs Q E [env] st₂.pre.room st₂.pre.base st₂.pre.sub r₂ hq.1 (fun e he => ?_) (fun a ha => ?_) fun h' tk t k' => ?_⟩
  · rw [List.mem_singleton.mp he]
    exact ⟨by rw [st.pre.eok.scope, st.pre.eok.kind]; decide, _, m, hq.2, hns⟩
  · rw [hl, List.mem_singleton] at ha; rw [ha]; exact st₂.locF
  · rw [hl] at k'
    exact hQ f₂ h' tk t (k.gr st.pin) (st₂.okL k')
theorem HTq.ifS {sn x : Str} {np cp p ip : Pos} {e r : Expr} {es : List Expr} {body : List Stmt} {vs : List V} (hg : isG sc sn = true) (hc : CallS W n sn vs x) (ha : HA W n sc ρ cp (e :: es) vs) (hr : HE W n sc ρ r (.val (.str x)))
    (he : ∀ env, starEach (e :: es) env = (false, eval e env) :: starEach es env := by intro _; rfl) (hm : behindInMarks .NotEq r = false := by with_unfolding_all rfl) :
    HTq qTop W n sc ρ (.If (.Compare (.Call (.Name sn np) (e :: es) [] cp) [.NotEq] [r] p) body [] ip) (fun o r => o = .next ∧ r = ρ) := by
  intro env A P f s Q E hq st hQ
  refine wpAny_If (wpAny_isTrue_Compare1 (callS_run hq st hg hc ha (fun f₁ h₁ tk₁ t₁ g₁ st₁ => ?_) he) hm)
  refine hr env A P f₁ { s with heap := h₁, toks := tk₁ } _ E st₁.pre fun y f₂ h₂ tk₂ k₂ r₂ => ?_
  obtain ⟨u, rfl⟩ := Rep.str_inv r₂
  refine PyProof.Rows.ne_str ?_
  rw [show (x != x) = false by simp]
  refine wpAny_truthy_bool ?_
  simp only [Bool.false_eq_true, if_false]
  exact wpAny_execs_nil (hQ .next .next ρ f₂ h₂ _ (g₁.trans (k₂.gr st₁.pin)) (st₁.step k₂) trivial ⟨rfl, rfl⟩)
theorem HTq.retS {sn x : Str} {np cp p rp : Pos} {e r : Expr} {es : List Expr} {vs : List V} (hg : isG sc sn = true) (hc : CallS W n sn vs x) (ha : HA W n sc ρ cp (e :: es) vs) (hr : HE W n sc ρ r (.val (.str x)))
    (he : ∀ env, starEach (e :: es) env = (false, eval e env) :: starEach es env := by intro _; rfl) (hm : behindInMarks .Eq r = false := by with_unfolding_all rfl) :
    HTq qTop W n sc ρ (.Return (some (.Compare (.Call (.Name sn np) (e :: es) [] cp) [.Eq] [r] p)) rp) (fun o r => o = .ret (.bool true)) := by
  intro env A P f s Q E hq st hQ
  refine wpAny_Return_some (wpAny_Compare1 (callS_run hq st hg hc ha (fun f₁ h₁ tk₁ t₁ g₁ st₁ => ?_) he) hm)
  refine hr env A P f₁ { s with heap := h₁, toks := tk₁ } _ E st₁.pre fun y f₂ h₂ tk₂ k₂ r₂ => ?_
  obtain ⟨u, rfl⟩ := Rep.str_inv r₂
  refine PyProof.Rows.eq_str ?_
  rw [show (x == x) = true by simp]
  exact hQ (.ret (.bool true)) (.ret (.bool true)) ρ f₂ h₂ _ (g₁.trans (k₂.gr st₁.pin)) (st₁.step k₂) (.bool true) rfl
/-! statements in a row -/
theorem execs_app (env : Env) : ∀ xs ys : List Stmt, execs (xs ++ ys) env = (do match ← execs xs env with | .next => execs ys env | f => pure f)
  | [], ys => rfl
  | x :: xs, ys => by
    rw [List.cons_append, execs_cons, execs_cons, bind_assoc]
    refine congrArg (fun k => exec x env >>= k) (funext fun f => ?_)
    cases f with
    | next => exact execs_app env xs ys
    | _ => rfl
theorem HSq.app {xs ys : List Stmt} {Mid : Out → List Bd → Prop} (h : HSq qq W n sc ρ xs Mid) (hn : ∀ ρ', Mid .next ρ' → HSq qq W n sc ρ' ys Post) (ho : ∀ o ρ', Mid o ρ' → o ≠ .next → Post o ρ') : HSq qq W n sc ρ (xs ++ ys) Post := by
  intro env A P f s Q E hq hst hQ
  show wpAny W.M A (execs (xs ++ ys) env) Q E s
  rw [execs_app]
  refine wpAny_bind (h env A P f s _ E hq hst fun fl o ρ' f' h' tk g st' fo p => ?_)
  cases o with
  | next =>
    cases fl with
    | next =>
      refine hn ρ' p env A P f' { s with heap := h', toks := tk } Q E hq st' fun fl o ρ'' f'' h'' tk' g' st'' fo' p' => ?_
      exact hQ fl o ρ'' f'' h'' tk' (g.trans g') st'' fo' p'
    | _ => exact fo.elim
  | brk => cases fl <;> first | exact fo.elim | exact wpAny_pure (hQ _ .brk ρ' f' h' tk g st' fo (ho _ _ p (by simp)))
  | cont => cases fl <;> first | exact fo.elim | exact wpAny_pure (hQ _ .cont ρ' f' h' tk g st' fo (ho _ _ p (by simp)))
  | ret v => cases fl <;> first | exact fo.elim | exact wpAny_pure (hQ _ (.ret v) ρ' f' h' tk g st' fo (ho _ _ p (by simp)))
theorem HSq.one {st : Stmt} (h : HTq qq W n sc ρ st Post) : HSq qq W n sc ρ [st] Post := by
  intro env A P f s Q E hq hst hQ
  refine wpAny_execs_cons (h env A P f s _ E hq hst fun fl o ρ' f' h' tk g st' fo p => ?_)
  cases fl with
  | next => cases o with
    | next => exact wpAny_execs_nil (hQ .next .next ρ' f' h' tk g st' fo p)
    | _ => exact fo.elim
  | _ => exact hQ _ o ρ' f' h' tk g st' fo p
theorem HSq.mono {ss : List Stmt} {Mid : Out → List Bd → Prop} (h : HSq qq W n sc ρ ss Mid) (hm : ∀ o ρ', Mid o ρ' → Post o ρ') : HSq qq W n sc ρ ss Post := fun env A P f s Q E hq st hQ =>
  h env A P f s Q E hq st fun fl o ρ' f' h' tk g st' fo p => hQ fl o ρ' f' h' tk g st' fo (hm o ρ' p)
end Mine
end

/-! part N8 -/
section
open PySem PySem.W PyProof.Rows PySem.Calls
namespace Mine
/-! small facts about halves -/
theorem hv_eq {l r : Nat} (e : decide ((l : Int) + 1 = r) = true) : l + 1 = r := by have := of_decide_eq_true e; omega
theorem hv_ne {l r : Nat} (e : decide ((l : Int) + 1 = r) = false) : l + 1 ≠ r := by have := of_decide_eq_false e; omega
theorem hv_pos {l r k : Nat} (h : l < r) (e : l + 1 ≠ r) (hk : r - l ≤ 2 ^ k) : ∃ k', k = k' + 1 := by
  cases k with
  | zero => simp at hk; omega
  | succ k => exact ⟨k, rfl⟩
theorem hv_mid {l r k : Nat} (h : l < r) (e : l + 1 ≠ r) (hk : r - l ≤ 2 ^ k * 2) : l < (l + r) / 2 ∧ (l + r) / 2 < r ∧ r - (l + r) / 2 ≤ 2 ^ k ∧ (l + r) / 2 - l ≤ 2 ^ k := by omega
theorem hv_len {l r len N : Nat} (hr : r ≤ len) (hs : N * len ≤ 2 ^ 26) : N * (r - l) ≤ 2 ^ 26 := Nat.le_trans (Nat.mul_le_mul_left _ (Nat.le_trans (Nat.sub_le ..) hr)) hs
theorem hv_sum {l m r : Nat} (h1 : l < m) (h2 : m < r) : m - l + (r - m) = r - l := by rw [Nat.add_comm, Nat.sub_add_sub_cancel (Nat.le_of_lt h2) (Nat.le_of_lt h1)]
theorem hv_spl {l m r N : Nat} (h1 : l < m) (h2 : m < r) : N * (r - l) = N * (m - l) + N * (r - m) := by rw [← Nat.mul_add, hv_sum h1 h2]
theorem hv_shift {l m N : Nat} (h : l < m) : ((m : Int) - l) * N = ((m - l) * N : Nat) := by rw [Int.natCast_mul, Int.natCast_sub (Nat.le_of_lt h)]
theorem hv_mul {l m r len N : Nat} (h1 : l < m) (h2 : m < r) (hr : r ≤ len) (hl : len ≤ 2 ^ 19) : IntMulOk ((m : Int) - l) N := by
  refine IntMulOk.of_left ?_
  rw [← Int.natCast_sub (Nat.le_of_lt h1)]
  have h : m - l < 2 ^ 20 := Nat.lt_of_le_of_lt (Nat.sub_le ..) (Nat.lt_of_lt_of_le h2 (Nat.le_trans hr (Nat.le_trans hl (by decide))))
  exact Nat.le_trans (intBits_nn (m := 20) (Int.natCast_nonneg _) (Int.ofNat_lt.mpr h)) (by decide)
theorem hv_p2 (k : Nat) : (0 : Int) < 2 ^ k := Int.pow_pos (by decide)
theorem hv_len1 {l r : Nat} {α : Type} {ds : List α} (h : r ≤ ds.length) : ((ds.drop l).take (r - l)).length = r - l := by rw [List.length_take, List.length_drop, Nat.min_eq_left (Nat.sub_le_sub_right h l)]
theorem hv_join {l m r : Nat} {α : Type} {ds : List α} (h1 : l < m) (h2 : m < r) : (ds.drop l).take (r - l) = (ds.drop l).take (m - l) ++ (ds.drop m).take (r - m) := by
  rw [← hv_sum h1 h2, List.take_add, List.drop_drop, Nat.add_sub_cancel' (Nat.le_of_lt h1)]
theorem hv_two {l m r : Nat} (h1 : l < m) (h2 : m < r) : l + (m - l) = m ∧ m - l + (r - m) = r - l := ⟨Nat.add_sub_cancel' (Nat.le_of_lt h1), hv_sum h1 h2⟩
theorem hv_lt {l r len : Nat} (e : l + 1 = r) (hr : r ≤ len) : l < len := by subst e; exact hr
theorem hv_one (l : Nat) : l + 1 - l = 1 := Nat.add_sub_cancel_left ..
theorem hv_nn (k : Nat) : (0 : Int) ≤ (k : Int) := Int.natCast_nonneg _
theorem hv_m {l len : Nat} (h : l < len) (hl : len ≤ 2 ^ 19) : (l : Int) < 1000000 := by omega
theorem hv_bits {y : Int} {N l m r : Nat} (h : Builtin.Int.intBits y ≤ N * (r - m)) (hs : N * (r - l) = N * (m - l) + N * (r - m)) (hb : N * (r - l) ≤ 2 ^ 26) : (Builtin.Int.intBits y : Int) + (((m - l) * N : Nat) : Int) ≤ 2 ^ 27 := by
  have := Nat.mul_comm (m - l) N
  omega
theorem hv_wl {l m r len z : Nat} (h1 : l < m) (h2 : m < r) (hr : r ≤ len) (hz : z = len) : l + (m - l) ≤ z ∧ l + (m - l) + (r - m) ≤ z := by
  rw [Nat.add_sub_cancel' (Nat.le_of_lt h1), Nat.add_sub_cancel' (Nat.le_of_lt h2), hz]
  exact ⟨Nat.le_trans (Nat.le_of_lt h2) hr, hr⟩
theorem hv_set {l len z : Nat} (hr : l + 1 ≤ len) (hz : z = len) (hl : len ≤ 2 ^ 19) : (0 : Int) ≤ (l : Int) ∧ (l : Int) < (z : Int) ∧ z ≤ 1000000 := by omega
theorem hv_in {l len z : Nat} (hr : l + 1 ≤ len) (hz : z = len) : l < z := by rw [hz]; exact hr
end Mine
end

/-! part M31 -/
section
open PySem PySem.W PyProof.Rows PySem.Calls
namespace Mine
variable {W : Wd} {n : Nat}
/-! the operations and the calls by one name each: what a step asks is then a constructor's premises -/
inductive OpR : (List Value → Sem Value) → List V → RT → Prop
  | add {a b : Int}  : OpR (op2 (binaryOp .Add)) [.int a, .int b] (.val (.int (a + b)))
  | sub {a b : Int}  : OpR (op2 (binaryOp .Sub)) [.int a, .int b] (.val (.int (a - b)))
  | mul {a b : Int} (h : IntMulOk a b) : OpR (op2 (binaryOp .Mult)) [.int a, .int b] (.val (.int (a * b)))
  | mod {a b : Int} (h : b ≠ 0) : OpR (op2 (binaryOp .Mod)) [.int a, .int b] (.val (.int (a.fmod b)))
  | fdiv {a b : Int} (h : b ≠ 0) (h' : b.natAbs < 1073741824) : OpR (op2 (binaryOp .FloorDiv)) [.int a, .int b] (.val (.int (a.fdiv b)))
  | shr {a b : Int} (h : 0 ≤ b) : OpR (op2 (binaryOp .RShift)) [.int a, .int b] (.val (.int (a.fdiv (2 ^ b.toNat))))
  | shl {a b : Int} (h : 0 ≤ b) (h' : (Builtin.Int.intBits a : Int) + b ≤ 2 ^ 27) : OpR (op2 (binaryOp .LShift)) [.int a, .int b] (.val (.int (a * 2 ^ b.toNat)))
  | pow {a b : Int} (h : 0 ≤ b) (h' : (Builtin.Int.intBits a : Int) * b ≤ 2 ^ 27) : OpR (op2 (binaryOp .Pow)) [.int a, .int b] (.val (.int (a ^ b.toNat)))
  | and {a b : Int}  : OpR (op2 (binaryOp .BitAnd)) [.int a, .int b] (.val (.int (Builtin.bitAnd a b)))
  | xor {a b : Int}  : OpR (op2 (binaryOp .BitXor)) [.int a, .int b] (.val (.int (Builtin.bitXor a b)))
  | ixor {a b : Int}  : OpR (op2 (inplaceOp .BitXor)) [.int a, .int b] (.val (.int (Builtin.bitXor a b)))
  | iadd {a b : Int}  : OpR (op2 (inplaceOp .Add)) [.int a, .int b] (.val (.int (a + b)))
  | isub {a b : Int}  : OpR (op2 (inplaceOp .Sub)) [.int a, .int b] (.val (.int (a - b)))
  | neg {a : Int}  : OpR (op1 (unaryOp .USub)) [.int a] (.val (.int (-a)))
  | inv {a : Int}  : OpR (op1 (unaryOp .Invert)) [.int a] (.val (.int (Builtin.bitNot a)))
  | eq {a b : Int}  : OpR (op2 (compareOp .Eq)) [.int a, .int b] (.val (.bool (a == b)))
  | ne {a b : Int}  : OpR (op2 (compareOp .NotEq)) [.int a, .int b] (.val (.bool (a != b)))
  | lt {a b : Int}  : OpR (op2 (compareOp .Lt)) [.int a, .int b] (.val (.bool (decide (a < b))))
  | gt {a b : Int}  : OpR (op2 (compareOp .Gt)) [.int a, .int b] (.val (.bool (decide (b < a))))
  | le {a b : Int}  : OpR (op2 (compareOp .LtE)) [.int a, .int b] (.val (.bool (decide (a ≤ b))))
  | eqS {a b : Str}  : OpR (op2 (compareOp .Eq)) [.str a, .str b] (.val (.bool (a == b)))
  | addS {a b : Str} (h : a.length + b.length ≤ 1000000) : OpR (op2 (binaryOp .Add)) [.str a, .str b] (.val (.str (a ++ b)))
  | addL {xs ys : List V} (h : xs.length + ys.length ≤ 1000000) : OpR (op2 (binaryOp .Add)) [.list xs, .list ys] (.freshL (xs ++ ys))
  | addLV {xs ys : List V} (h : xs.length + ys.length ≤ 1000000) : OpR (op2 (binaryOp .Add)) [.list xs, .list ys] (.val (.list (xs ++ ys)))
  | mulL {v : V} {k : Int} (h : k ≤ 1000000) (h' : -1000000 ≤ k) : OpR (op2 (binaryOp .Mult)) [.list [v], .int k] (.freshL (List.replicate k.toNat v))
  | mulLV {v : V} {k : Int} (h : k ≤ 1000000) (h' : -1000000 ≤ k) : OpR (op2 (binaryOp .Mult)) [.list [v], .int k] (.val (.list (List.replicate k.toNat v)))
  | neLZ {xs ys : List Int} (h : xs = ys) : OpR (op2 (compareOp .NotEq)) [.list (xs.map decV), .list (ys.map decV)] (.val (.bool false))
  | eqLZ {xs ys : List Int} (h : xs = ys) : OpR (op2 (compareOp .Eq)) [.list (xs.map decV), .list (ys.map decV)] (.val (.bool true))
  | sliceS {a : Str} {lo hi : Option Int} (h : a.length ≤ 1000000) : OpR (op2 getItem) [.str a, .slice lo hi none] (.val (.str (Txt.slice a lo hi)))
theorem OpR.op {f : List Value → Sem Value} {vs : List V} {r : RT} (h : OpR f vs r) : Op W n f vs r := by
  cases h with
  | add  => exact Op.add 
  | sub  => exact Op.sub 
  | mul h => exact Op.mul h
  | mod h => exact Op.mod h
  | fdiv h h' => exact Op.fdiv h h'
  | shr h => exact Op.shr h
  | shl h h' => exact Op.shl h h'
  | pow h h' => exact Op.pow h h'
  | and  => exact Op.and 
  | xor  => exact Op.xor 
  | ixor  => exact Op.ixor 
  | iadd  => exact Op.iadd 
  | isub  => exact Op.isub 
  | neg  => exact Op.neg 
  | inv  => exact Op.inv 
  | eq  => exact Op.eq 
  | ne  => exact Op.ne 
  | lt  => exact Op.lt 
  | gt  => exact Op.gt 
  | le  => exact Op.le 
  | eqS  => exact Op.eqS 
  | addS h => exact Op.addS h
  | addL h => exact Op.addL h
  | addLV h => exact Op.addLV h
  | mulL h h' => exact Op.mulL h h'
  | mulLV h h' => exact Op.mulLV h h'
  | neLZ h => exact Op.neLZ h
  | eqLZ h => exact Op.eqLZ h
  | sliceS h => exact Op.sliceS h
inductive OpK : (List Value → Sem Value) → List V → RT → Prop
  | lenL {xs : List V} (h : xs.length < 2 ^ 62) : OpK (fun as => call (.builtin "len") as) [.list xs] (.val (.int xs.length))
  | lenS {a : Str} (h : a.length < 2 ^ 62) : OpK (fun as => call (.builtin "len") as) [.str a] (.val (.int a.length))
  | min2 {a b : Int}  : OpK (fun as => call (.builtin "min") as) [.int a, .int b] (.val (.int (if b < a then b else a)))
  | strZ {a : Int} (h : Builtin.Int.intBits a ≤ 1900) : OpK (fun as => call (.type "str") as) [.int a] (.val (decV a))
  | chr {a : Int} (h : 0 ≤ a) (h' : a ≤ 1114111) : OpK (fun as => call (.builtin "chr") as) [.int a] (.val (.str ⟨#[a.toNat]⟩))
  | hex {a : Int} (h : (baseText "0x" 16 a).length ≤ 1000) : OpK (fun as => call (.builtin "hex") as) [.int a] (.val (.str (baseText "0x" 16 a)))
  | divmod {a b : Int} (h : b ≠ 0) (h' : b.natAbs.log2 < 9000) : OpK (fun as => call (.builtin "divmod") as) [.int a, .int b] (.val (.tuple [.int (a.fdiv b), .int (a.fmod b)]))
  | sumI {ns : List Int}  : OpK (fun as => call (.builtin "sum") as) [.list (ns.map .int)] (.val (.int ns.sum))
  | isTup {xs : List V}  : OpK (fun as => call (.builtin "isinstance") as) [.tuple xs, .ty "tuple"] (.val (.bool true))
  | isInt {i : Int}  : OpK (fun as => call (.builtin "isinstance") as) [.int i, .ty "int"] (.val (.bool true))
  | range1 {a : Int}  : OpK (fun as => call (.type "range") as) [.int a] (.val (.range 0 a 1))
  | range2 {a b : Int}  : OpK (fun as => call (.type "range") as) [.int a, .int b] (.val (.range a b 1))
theorem OpK.op {f : List Value → Sem Value} {vs : List V} {r : RT} (h : OpK f vs r) : Op W n f vs r := by
  cases h with
  | lenL h => exact OpC.lenL h
  | lenS h => exact OpC.lenS h
  | min2  => exact OpC.min2 
  | strZ h => exact OpC.strZ h
  | chr h h' => exact OpC.chr h h'
  | hex h => exact OpC.hex h
  | divmod h h' => exact OpC.divmod h h'
  | sumI  => exact OpC.sumI 
  | isTup  => exact OpC.isTup 
  | isInt  => exact OpC.isInt 
  | range1  => exact OpC.range1 
  | range2  => exact OpC.range2 
end Mine
end

/-! part HD -/
section
open PySem PySem.W PyProof.Rows PySem.Calls
set_option maxRecDepth 100000
namespace Mine
noncomputable abbrev PW : Program := PySem.Challenge.pw_rw0078_01
noncomputable def fnAt (i : Nat) : Arguments × List Stmt × Scope := match PW.main.body[i]? with | some (.FunctionDef _ a b _ _ _ sc _ _ _) => (a, b, sc) | _ => default
noncomputable def bodyAt (i : Nat) : List Stmt := (fnAt i).2.1
noncomputable def scAt (i : Nat) : Scope := (fnAt i).2.2
noncomputable def parAt (i : Nat) : Arguments := (fnAt i).1
noncomputable def inAt (i j : Nat) : Arguments × List Stmt × Scope × Pos := match (bodyAt i)[j]? with | some (.FunctionDef _ a b _ _ _ sc _ _ p) => (a, b, sc, p) | _ => default
noncomputable def forB (i j : Nat) : List Stmt := match (bodyAt i)[j]? with | some (.For _ _ b _ _) => b | _ => []
end Mine
end

section
open PySem PySem.W PyProof.Rows PySem.Calls
namespace Mine
section
local macro_rules | `(tactic| tm_at "find") => `(tactic| repeat' (first | (with_reducible exact Find.z) | (with_reducible refine' Find.s ?_)))
local macro_rules | `(tactic| tm_at "put") => `(tactic| repeat' (first | (with_reducible exact Put.z) | (with_reducible refine' Put.s ?_)))
local macro_rules | `(tactic| tm_at "mem") => `(tactic| repeat' (first | (with_reducible exact List.mem_cons_self) | (with_reducible refine' List.mem_cons_of_mem _ ?_)))
local macro_rules | `(tactic| tm_at "puts") => `(tactic| first | (with_reducible exact PutAll.nil) | ((with_reducible refine' PutAll.cons ?p ?r); (case p => tm_at "put"); (case r => tm_at "puts")))
local macro_rules | `(tactic| tm_at "op") => `(tactic| first
  | ((with_reducible refine OpR.op ?_); (with_reducible constructor))
  | (exact Op.itemL (by decide) (by decide) rfl)
  | (with_reducible first | refine Op.itemL ?_ ?_ ?_ | refine Op.sliceL ?_ ?_)
  | skip)
local macro_rules | `(tactic| tm_at "call") => `(tactic| first
  | ((with_reducible refine OpK.op ?_); (with_reducible constructor))
  | skip)
local macro_rules | `(tactic| tm_at "tr") => `(tactic| with_reducible first | exact Op.tI | exact Op.tB | refine Op.tS ?_ | refine Op.tL ?_)
local macro_rules | `(tactic| tm_at "ha") => `(tactic| first
  | (with_reducible exact HA.nil)
  | ((with_reducible refine' HA.cons ?l ?r ?he); (case he => (intro _; rfl)); (case' l => tm_at "x"); (case' r => tm_at "ha")))
local macro_rules | `(tactic| tm_at "x") => `(tactic| first
  | (with_reducible first | exact HE.int | exact HE.str | exact HE.none)
  | ((with_reducible refine' HE.v (by assumption) ?vf); (case vf => (tm_at "find"; done)))
  | ((with_reducible refine' HE.bin ?l ?r ?o); (case' l | r => tm_at "x"); (case' o => tm_at "op"))
  | ((with_reducible refine' HE.un ?ux ?uo); (case' ux => tm_at "x"); (case' uo => tm_at "op"))
  | ((with_reducible refine' HE.cmp ?l ?r ?o ?hm); (case hm => with_unfolding_all rfl); (case' l | r => tm_at "x"); (case' o => tm_at "op"))
  | ((with_reducible refine' HE.sub' ?l ?r ?v ?o ?hsl); (case hsl => exact fun _ _ => ⟨_, rfl⟩); (case' l | r => tm_at "x"); (case v => rfl); (case' o => tm_at "op"))
  | ((with_reducible refine' HE.slice ?l ?r ?o); (case' l | r | o => tm_at "hp"))
  | ((with_reducible refine' HE.gval (by assumption) ?gm ?gg); (case gg => assumption); (case gm => tm_at "mem"))
  | ((with_reducible refine' HE.tyN (by assumption) ?gm ?gg); (case gg => assumption); (case gm => tm_at "mem"))
  | ((with_reducible refine' HE.bi (by assumption) ?m ?b ?a ?o ?he ?hpl); (case b => assumption); (case he | hpl => (intro _; rfl)); (case m => tm_at "mem"); (case' a => tm_at "ha"); (case' o => tm_at "call"))
  | ((with_reducible refine' HE.ty (by assumption) ?m ?b ?a ?o ?he ?hpl); (case b => assumption); (case he | hpl => (intro _; rfl)); (case m => tm_at "mem"); (case' a => tm_at "ha"); (case' o => tm_at "call"))
  | ((with_reducible refine' HE.fn (by assumption) ?m ?a ?c ?he); (case he => (intro _; rfl)); (case m => tm_at "mem"); (case' a => tm_at "ha"); (case' c => first | assumption | skip))
  | ((with_reducible refine' HE.fn0 (by assumption) ?m ?c); (case m => tm_at "mem"); (case' c => first | assumption | skip))
  | ((with_reducible refine' HE.bitLen ?bx ?h1 ?h2); (case h1 => (intro _; rfl)); (case h2 => rfl); (case' bx => tm_at "x"))
  | ((with_reducible refine' HE.lowerM ?lx ?ls ?h1 ?h2); (case h1 => (intro _; rfl)); (case h2 => rfl); (case' lx => tm_at "x"))
  | ((with_reducible refine' HE.joinM ?o ?e ?s ?h1 ?h2 ?h3 ?h4 ?h5); (case h1 | h2 | h4 | h5 => (intro _; rfl)); (case h3 => rfl); (case' o | e => tm_at "x"))
  | ((with_reducible refine' HE.splitM ?o ?e ?s ?t ?h1 ?h2 ?h3 ?h4 ?h5); (case h1 | h2 | h4 | h5 => (intro _; rfl)); (case h3 => rfl); (case' o | e => tm_at "x"))
  | ((with_reducible refine' HE.dgetM ?o ?e ?f ?h1 ?h2 ?h3 ?h4 ?h5 ?h6); (case h1 | h2 | h4 | h5 | h6 => (intro _; rfl)); (case h3 => rfl); (case' o | e | f => tm_at "x"))
  | ((with_reducible refine' HE.tuple' ?tl ?ts); (case' tl => tm_at "ha"); (case' ts => first | exact Nat.le_of_ble_eq_true rfl | skip))
  | ((with_reducible refine' HE.list' ?gl ?gs); (case' gl => tm_at "ha"); (case' gs => first | exact Nat.le_of_ble_eq_true rfl | skip))
  | ((with_reducible refine' HE.listF' ?fl ?fs); (case' fl => tm_at "ha"); (case' fs => first | exact Nat.le_of_ble_eq_true rfl | skip)))
local macro_rules | `(tactic| tm_at "hp") => `(tactic| first
  | (with_reducible exact HP.no)
  | (with_reducible exact HP.nil)
  | ((with_reducible refine' HP.some ?px); (case' px => tm_at "x")))
local macro_rules | `(tactic| tm_at "b") => `(tactic| first
  | ((with_reducible refine' HB.cmpN ?cx); (case' cx => tm_at "x"))
  | ((with_reducible refine' HB.cmp ?l ?r ?o ?hm); (case hm => with_unfolding_all rfl); (case' l | r => tm_at "x"); (case' o => tm_at "op"))
  | ((with_reducible refine' HB.not ?nx); (case' nx => tm_at "b"))
  | ((with_reducible refine' HB.val ?vx ?vt ?vh); (case vh => (intro _ _; rfl)); (case' vx => tm_at "x"); (case' vt => tm_at "tr")))
local macro_rules | `(tactic| tm_at "ok") => `(tactic| exact ⟨by decide +kernel, rfl, by decide +kernel, by decide +kernel, by decide +kernel, by decide +kernel⟩)
local macro_rules | `(tactic| tm_at "how") => `(tactic| (show _ ≠ _; decide +kernel))
local macro_rules | `(tactic| tm_at "fc") => `(tactic| exact ⟨by decide +kernel, by decide +kernel⟩)
local macro_rules | `(tactic| tm_at "him") => `(tactic| exact immAll rfl)
local macro_rules | `(tactic| tm_at "szs") => `(tactic| first
  | (with_reducible assumption)
  | ((with_reducible refine' intBits_mul_le ?sa ?sb); (case sa | sb => tm_at "szs"))
  | ((with_reducible refine' intBits_add_le ?sa ?sb); (case sa | sb => tm_at "szs"))
  | ((with_reducible refine' intBits_sub_le ?sa ?sb); (case sa | sb => tm_at "szs"))
  | ((with_reducible refine' intBits_fmod_le ?sa ?sb); (case sa | sb => tm_at "szs"))
  | ((with_reducible refine' intBits_pow_le ?sa _); (case sa => tm_at "szs"))
  | (show Builtin.Int.intBits _ ≤ 8; decide))
local macro_rules | `(tactic| tm_at "sz") => `(tactic| first
  | ((with_reducible refine' IntMulOk.of_le ?za ?zb ?zc); (case za | zb => tm_at "szs"); (case zc => first | decide | omega))
  | ((with_reducible refine' sz_pow ?za ?zb ?zc); (case za => tm_at "szs"); (case zb | zc => first | decide | omega))
  | ((with_reducible refine' sz_le ?za ?zc); (case za => tm_at "szs"); (case zc => first | decide | omega)))

/-! part D10 -/
section
open PySem PySem.W PyProof.Rows PySem.Calls
set_option maxRecDepth 100000
variable {W : Wd} {n : Nat}
theorem F10 : FF (scAt 10) ["flags", "names", "i", "flag"] ["range", "COMPILER_FLAG_NAMES", "hex"] := ⟨by decide +kernel, by decide +kernel, by decide +kernel⟩
theorem K10 : FnOk "pretty_flags" (parAt 10) (bodyAt 10) (scAt 10) ["flags"] where
  nodup := by rw [F10.nm]; decide +kernel
  plain := by rw [F10.nm]; decide +kernel
  first := by rw [F10.nm]; rfl
  kind := by rfl
  co := by rfl
  gen := by rfl
  kinds := by rw [F10.nm]; decide +kernel
  cellk := by decide +kernel
  bind := fun pm cd doc xs h => by obtain ⟨a, rfl⟩ := len_1 h; rfl
noncomputable def flagTab : List (Int × Str) := [(1, "OPTIMIZED"), (2, "NEWLOCALS"), (4, "VARARGS"), (8, "VARKEYWORDS"), (16, "NESTED"), (32, "GENERATOR"), (64, "NOFREE"), (128, "COROUTINE"), (256, "ITERABLE_COROUTINE"), (512, "ASYNC_GENERATOR")]
noncomputable def flagV : V := .dict (flagTab.map fun p => (p.1, .str p.2))
noncomputable def fname (k : Int) : Str := ((flagTab.find? fun p => p.1 = k).map (·.2)).getD (baseText "0x" 16 k)
theorem fname_eq (k : Int) : (dget (flagTab.map fun p => (p.1, V.str p.2)) k).getD (.str (baseText "0x" 16 k)) = .str (fname k) := by
  unfold dget fname
  rw [List.find?_map]
  have : ((fun p : Int × V => decide (p.1 = k)) ∘ fun p : Int × Str => (p.1, V.str p.2)) = fun p => decide (p.1 = k) := rfl
  rw [this]
  cases flagTab.find? fun p => decide (p.1 = k) <;> rfl
/-- from bit i on: what is left of the flags, the names; whether all is told -/
noncomputable def pfLoop : Nat → Nat → Int → List Str → List Str × Option Int
  | 0, _, fl, ns => (ns, some fl)
  | k + 1, i, fl, ns => if Builtin.bitAnd fl (1 * 2 ^ i) != 0 then (if Builtin.bitXor fl (1 * 2 ^ i) != 0 then pfLoop k (i + 1) (Builtin.bitXor fl (1 * 2 ^ i)) (ns ++ [fname (1 * 2 ^ i)]) else (ns ++ [fname (1 * 2 ^ i)], none))
    else pfLoop k (i + 1) fl ns
noncomputable def pfEnd : List Str × Option Int → List Str
  | (ns, none) => ns
  | (ns, some r) => ns ++ [baseText "0x" 16 r]
noncomputable def pfEndOk : List Str × Option Int → Bool
  | (_, none) => true
  | (_, some r) => decide ((baseText "0x" 16 r).length ≤ 1000)
noncomputable def pfNames (fl : Int) : List Str := pfEnd (pfLoop 32 0 fl [])
noncomputable def pfOk (fl : Int) : Bool := pfEndOk (pfLoop 32 0 fl [])
theorem hex_small : ∀ i : Nat, i < 32 → (baseText "0x" 16 (1 * 2 ^ i)).length ≤ 1000 := by decide +kernel
theorem pf_sh {i : Nat} (h : i < 32) : (Builtin.Int.intBits 1 : Int) + (i : Int) ≤ 2 ^ 27 := by rw [show Builtin.Int.intBits 1 = 1 from rfl]; omega
theorem pf_len {a i : Nat} (h : a ≤ i) (hi : i ≤ 32) : a ≤ 1000000 := Nat.le_trans h (Nat.le_trans hi (by decide))
theorem pretty_ok {fl : Int} (D : DefAt W "pretty_flags" (parAt 10) (bodyAt 10) (scAt 10)) (hr : Bi W "range" (.type "range")) (hh : Bi W "hex" (.builtin "hex")) (hg : ∃ y, W.mg "COMPILER_FLAG_NAMES" = some y ∧ Rep W.base.get? flagV y)
    (ok : pfOk fl = true) (hj : JoinOk ", " (pfNames fl) = true) : CallOk W (n + 1) "pretty_flags" [.int fl] (.val (.str (Txt.join ", " (pfNames fl)))) := by
  refine CallOk.of D K10 rfl ?_
  have F := F10
  have F' := F.fc
  rw [F.nm]
  show HS W n (scAt 10) [.imm (.int fl), .unb, .unb, .unb] (bodyAt 10) _
  refine' HS.asgL F ?e1 ?p1 ?n1
  case e1 => exact HE.listF' HA.nil (by decide)
  case p1 => tm_at "put"
  case n1 =>
  have fin : ∀ (fl' : Int) (ns : List Str) (x y : V), ns = pfNames fl → HS W n (scAt 10) [.imm (.int fl'), .mutL (ns.map .str), .imm x, .imm y] ((bodyAt 10).drop 2) (fnPost (.str (Txt.join ", " (pfNames fl)))) := by
    intro fl' ns x y e
    subst e
    refine' HS.fzL (nms := ["flags", "names", "i", "flag"]) "names" ?p8 ?n8 ?v8 ?o8
    case p8 => tm_at "put"
    case v8 => rfl
    case o8 => rfl
    case n8 =>
    refine' HS.ret ?hret ?hpost
    case hret => tm_at "x"; exact hj
    case hpost => exact rfl
  obtain ⟨R, hR⟩ : ∃ R, pfLoop 32 0 fl [] = R := ⟨_, rfl⟩
  have hnm : pfNames fl = pfEnd R := by unfold pfNames; rw [hR]
  have hok : pfEndOk R = true := by rw [← ok]; unfold pfOk; rw [hR]
  generalize pfNames fl = N0 at *
  let Inv : Nat → List Bd → Prop := fun i ρ => ∃ (f : Int) (ns : List Str) (x y : Bd), ρ = [.imm (.int f), .mutL (ns.map .str), x, y] ∧ ((i = 0 ∧ x = .unb ∧ y = .unb) ∨ ∃ u w, x = .imm u ∧ y = .imm w) ∧ i ≤ 32 ∧ pfLoop (32 - i) i f ns = R ∧ ns.length ≤ i
  refine' HS.thn (HT.for Inv 2 ?hi ?h0 ?hturn ?hend ?hx ?hfr ?hs)
  case hi =>
    refine' HI.v ?hiv (OpI.range (k := 32) ?hk1 ?hk2)
    case hiv => tm_at "x"
    case hk1 => decide +kernel
    case hk2 => decide +kernel
  case h0 => exact ⟨fl, [], .unb, .unb, rfl, .inl ⟨rfl, rfl, rfl⟩, Nat.zero_le _, hR, Nat.le_refl _⟩
  case hx => rw [F.nm]; rfl
  case hfr => decide +kernel
  case hs => intro _ _; rfl
  case hturn =>
    rintro i v ρ' hv ⟨f, ns, x, y, rfl, hxy, hi, hl, hlen⟩
    have hi' : i < 32 := by
      have := (List.getElem?_eq_some_iff.mp hv).1
      simpa [rangeInts] using this
    have hvd' : v = .int (i : Int) := by
      rw [List.getElem?_map, rangeInts, List.getElem?_map, List.getElem?_range hi'] at hv
      have := (Option.some.inj hv).symm
      rw [this]
      show V.int (0 + (i : Int) * 1) = _
      rw [Int.mul_one, Int.zero_add]
    subst hvd'
    rw [show 32 - i = (31 - i) + 1 from Nat.succ_sub (Nat.le_of_lt_succ hi')] at hl
    rw [pfLoop] at hl
    have go : ∀ (y : Bd) (Post : Out → List Bd → Prop), (y = .unb ∨ ∃ w, y = .imm w) → (∀ ρ, Inv (i + 1) ρ → Post .next ρ) → (∀ (fl' : Int) (ns : List Str) (x y : V), ns = N0 → Post .brk [.imm (.int fl'), .mutL (ns.map .str), .imm x, .imm y]) →
        HS W n (scAt 10) [.imm (.int f), .mutL (ns.map .str), .imm (.int (i : Int)), y] (forB 10 1) Post := by
      intro y Post hy hP hB
      refine' HS.asg F (v := .int (1 * 2 ^ i)) ?e2 ?p2 ?n2
      case e2 =>
        refine HE.castV (r := .int (1 * 2 ^ (i : Int).toNat)) ?_ (by rw [Int.toNat_natCast])
        tm_at "x"
        · exact Int.natCast_nonneg _
        · exact pf_sh hi'
      case p2 => tm_at "put"
      case n2 =>
      refine' HS.last (HT.ifS ?t3 ?a3 ?b3)
      case t3 => tm_at "b"
      case b3 =>
        intro e
        rw [e] at hl
        simp only [Bool.false_eq_true, if_false] at hl
        refine HS.nil (hP _ ⟨f, ns, _, _, rfl, .inr ⟨_, _, rfl, rfl⟩, hi', ?_, Nat.le_succ_of_le hlen⟩)
        rw [show 32 - (i + 1) = 31 - i from Nat.succ_sub_succ 31 i]; exact hl
      case a3 =>
        intro e
        rw [e] at hl
        simp only [if_true] at hl
        refine' HS.app F ?e6 ?p6 ?s6 ?n6 ?v6 ?o6
        case e6 =>
          refine HE.castV (r := (dget (flagTab.map fun p => (p.1, V.str p.2)) (1 * 2 ^ i)).getD (.str (baseText "0x" 16 (1 * 2 ^ i)))) ?_ (fname_eq _)
          have hg' : ∃ y, W.mg "COMPILER_FLAG_NAMES" = some y ∧ Rep W.base.get? (.dict (flagTab.map fun p => (p.1, V.str p.2))) y := hg
          tm_at "x"
          exact hex_small i hi'
        case p6 => tm_at "put"
        case v6 => rfl
        case o6 => rfl
        case s6 => rw [List.length_map]; exact pf_len hlen hi
        case n6 =>
        refine' HS.augm F ?p7 ?u7 ?e7 ?o7 ?n7
        case p7 => tm_at "put"
        case u7 => rfl
        case e7 => tm_at "x"
        case o7 => tm_at "op"
        case n7 =>
        refine' HS.last (HT.ifS (c := !(Builtin.bitXor f (1 * 2 ^ i) != 0)) ?t8 ?a8 ?b8)
        case t8 => tm_at "b"
        case a8 =>
          intro e8
          rw [Bool.not_eq_true'] at e8
          rw [e8] at hl
          simp only [Bool.false_eq_true, if_false] at hl
          have hp := hB (Builtin.bitXor f (1 * 2 ^ i)) (ns ++ [fname (1 * 2 ^ i)]) (.int (i : Int)) (.int (1 * 2 ^ i)) (by rw [hnm, ← hl]; rfl)
          rw [List.map_append] at hp
          exact HS.brk hp
        case b8 =>
          intro e8
          rw [Bool.not_eq_false'] at e8
          rw [e8] at hl
          simp only [if_true] at hl
          refine HS.nil (hP _ ⟨Builtin.bitXor f (1 * 2 ^ i), ns ++ [fname (1 * 2 ^ i)], _, _, by rw [List.map_append]; rfl, .inr ⟨_, _, rfl, rfl⟩, hi', ?_, by rw [List.length_append]; exact Nat.succ_le_succ hlen⟩)
          rw [show 32 - (i + 1) = 31 - i from Nat.succ_sub_succ 31 i]; exact hl
    rcases hxy with ⟨rfl, rfl, rfl⟩ | ⟨u, w, rfl, rfl⟩
    · exact go _ _ (.inl rfl) (fun _ h => h) fun fl' ns x y e => fin fl' ns x y e
    · exact go _ _ (.inr ⟨w, rfl⟩) (fun _ h => h) fun fl' ns x y e => fin fl' ns x y e
  case hend =>
    rintro ρ' ⟨f, ns, x, y, rfl, hxy, hi, hl, hlen⟩
    have h32 : ((rangeInts 0 1 32).map V.int).length = 32 := by simp [rangeInts]
    rw [h32] at hl hlen hxy
    rcases hxy with ⟨h, _⟩ | ⟨u, w, rfl, rfl⟩
    · cases h
    rw [Nat.sub_self, pfLoop] at hl
    subst hl
    refine' HS.app F ?e6 ?p6 ?s6 ?n6 ?v6 ?o6
    case e6 =>
      tm_at "x"
      exact of_decide_eq_true hok
    case p6 => tm_at "put"
    case v6 => rfl
    case o6 => rfl
    case s6 => rw [List.length_map]; exact pf_len hlen (Nat.le_refl _)
    case n6 =>
    have := fin f (ns ++ [baseText "0x" 16 f]) u w hnm.symm
    rw [List.map_append] at this
    exact HS.next this
end

/-! part N4 -/
section
open PySem PySem.W PyProof.Rows PySem.Calls
/-! texts as lists of code points -/
noncomputable def mk (l : List Nat) : Str := ⟨l.toArray⟩
theorem mk_len (l : List Nat) : (mk l).length = l.length := by simp [mk, Str.length]
theorem pick_range (l : List Nat) (a k : Nat) (h : a + k ≤ l.length) : (((List.range k).map fun i : Nat => a + i).filterMap ((mk l).cps[·]?)) = (l.drop a).take k := by
  rw [List.filterMap_map]
  have e : ((mk l).cps[·]?) = fun i : Nat => l[i]? := by funext i; simp [mk]
  rw [e]
  have : ∀ k, a + k ≤ l.length → List.filterMap ((fun i : Nat => l[i]?) ∘ fun i : Nat => a + i) (List.range k) = (l.drop a).take k := by
    intro k
    induction k with
    | zero => intro _; simp
    | succ k ih =>
      intro h
      rw [List.range_succ, List.filterMap_append, ih (by omega), List.take_add_one]
      congr 1
      simp [List.getElem?_eq_getElem (show a + k < l.length by omega)]
  exact this k h
theorem slice_mk (l : List Nat) (lo hi : Option Int) (a k : Nat) (h : a + k ≤ l.length) (hs : Builtin.Str.strSliceIndices lo hi 1 l.length = (List.range k).map fun i : Nat => a + i) : Txt.slice (mk l) lo hi = mk ((l.drop a).take k) := by
  unfold Txt.slice
  rw [mk_len, hs]
  split
  · rename_i q
    have hk : k = l.length := by simpa using q
    have ha : a = 0 := by omega
    subst hk ha; simp
  · rw [pick_range l a k h]; rfl
theorem sr_up (a k : Nat) (hi : Int) (h : hi = a + k) : sliceRange (a : Int) hi 1 = (List.range k).map fun i : Nat => a + i := by
  subst h
  unfold sliceRange
  simp only [show (1 : Int) > 0 by decide, if_true]
  by_cases hk : k = 0
  · subst hk; simp
  · rw [if_pos (by omega)]
    have e : (((a : Int) + k - a + 1 - 1) / 1).toNat = k := by rw [Int.ediv_one]; omega
    rw [e]
    congr 1
    funext i
    omega
theorem slice_from (l : List Nat) (p : Nat) : Txt.slice (mk l) (some (p : Int)) none = mk (l.drop p) := by
  by_cases h : p ≤ l.length
  · rw [slice_mk l _ _ p (l.length - p) (Nat.le_of_eq (Nat.add_sub_cancel' h))]
    · rw [List.take_of_length_le (by simp)]
    · show sliceRange (max 0 (min (if (p : Int) < 0 then (p : Int) + l.length else (p : Int)) (l.length : Int))) (l.length : Int) 1 = _
      rw [if_neg (Int.not_lt.mpr (Int.natCast_nonneg p)), Int.min_eq_left (Int.ofNat_le.mpr h), Int.max_eq_right (Int.natCast_nonneg p)]
      exact sr_up _ _ _ (by rw [← Int.natCast_add, Nat.add_sub_cancel' h])
  · have h' := Nat.le_of_not_le h
    rw [slice_mk l _ _ l.length 0 (Nat.le_refl _)]
    · rw [List.take_zero, List.drop_eq_nil_of_le h']
    · show sliceRange (max 0 (min (if (p : Int) < 0 then (p : Int) + l.length else (p : Int)) (l.length : Int))) (l.length : Int) 1 = _
      rw [if_neg (Int.not_lt.mpr (Int.natCast_nonneg p)), Int.min_eq_right (Int.ofNat_le.mpr h'), Int.max_eq_right (Int.natCast_nonneg _)]
      exact sr_up _ _ _ (Int.add_zero _).symm
theorem slice_all (l : List Nat) : Txt.slice (mk l) none none = mk l := by
  rw [slice_mk l _ _ 0 l.length (by omega)]
  · simp
  · show sliceRange 0 (l.length : Int) 1 = _
    exact sr_up 0 _ _ (by omega)
theorem slice_upto (l : List Nat) (q : Nat) (hq : 0 < q) : Txt.slice (mk l) none (some (-(q : Int))) = mk (l.take (l.length - q)) := by
  rw [slice_mk l _ _ 0 (l.length - q) (by omega)]
  · simp
  · show sliceRange 0 (max 0 (min (if -(q : Int) < 0 then -(q : Int) + l.length else -(q : Int)) (l.length : Int))) 1 = _
    rw [if_pos (by omega)]
    exact sr_up 0 _ _ (by omega)
theorem item_mk (l : List Nat) (i : Nat) (h : i < l.length) : (seqIndex? (i : Int) (mk l).length).bind ((mk l).cps[·]?) = some l[i] := by
  unfold seqIndex?
  rw [mk_len]
  simp only [if_neg (show ¬ (i : Int) < 0 by omega)]
  rw [if_pos (by simp; omega)]
  simp [mk, List.getElem?_eq_getElem h]
theorem item_neg (l : List Nat) (q : Nat) (h : q < l.length) : (seqIndex? (-(q : Int) - 1) (mk l).length).bind ((mk l).cps[·]?) = some (l[l.length - 1 - q]'(by omega)) := by
  unfold seqIndex?
  rw [mk_len]
  simp only [if_pos (show (-(q : Int) - 1) < 0 by omega)]
  rw [if_pos (by simp; omega)]
  have e : (-(q : Int) - 1 + (l.length : Int)).toNat = l.length - 1 - q := by omega
  rw [e]
  simp [mk, List.getElem?_eq_getElem (show l.length - 1 - q < l.length by omega)]
end

/-! part N5 -/
section
open PySem PySem.W PyProof.Rows PySem.Calls
/-! the distance, as the program counts it -/
noncomputable def preN : List Nat → List Nat → Nat
  | x :: xs, y :: ys => if x = y then preN xs ys + 1 else 0
  | _, _ => 0
theorem preN_le : ∀ xs ys : List Nat, preN xs ys ≤ xs.length ∧ preN xs ys ≤ ys.length
  | [], ys => by simp [preN]
  | x :: xs, [] => by simp [preN]
  | x :: xs, y :: ys => by
    have := preN_le xs ys
    simp only [preN]
    split <;> simp <;> omega
theorem preN_at : ∀ (xs ys : List Nat) (p : Nat), p < preN xs ys → xs[p]? = ys[p]?
  | [], ys, p, h => by simp [preN] at h
  | x :: xs, [], p, h => by simp [preN] at h
  | x :: xs, y :: ys, p, h => by
    simp only [preN] at h
    split at h
    · rename_i e
      subst e
      cases p with
      | zero => rfl
      | succ p => simpa using preN_at xs ys p (by omega)
    · omega
theorem preN_end : ∀ (xs ys : List Nat) (h1 : preN xs ys < xs.length) (h2 : preN xs ys < ys.length), xs[preN xs ys] ≠ ys[preN xs ys]
  | [], ys, h1, h2 => by simp at h1
  | x :: xs, [], h1, h2 => by simp at h2
  | x :: xs, y :: ys, h1, h2 => by
    by_cases e : x = y
    · have e1 : preN (x :: xs) (y :: ys) = preN xs ys + 1 := by simp [preN, e]
      have h1' : preN xs ys < xs.length := by rw [e1] at h1; simpa using h1
      have h2' : preN xs ys < ys.length := by rw [e1] at h2; simpa using h2
      have := preN_end xs ys h1' h2'
      intro q
      apply this
      have q' : (x :: xs)[preN (x :: xs) (y :: ys)]? = (y :: ys)[preN (x :: xs) (y :: ys)]? := by rw [List.getElem?_eq_getElem h1, List.getElem?_eq_getElem h2, q]
      rw [e1] at q'
      simp only [List.getElem?_cons_succ] at q'
      rw [List.getElem?_eq_getElem h1', List.getElem?_eq_getElem h2'] at q'
      exact Option.some.inj q'
    · have e1 : preN (x :: xs) (y :: ys) = 0 := by simp [preN, e]
      intro q
      have q' : (x :: xs)[preN (x :: xs) (y :: ys)]? = (y :: ys)[preN (x :: xs) (y :: ys)]? := by rw [List.getElem?_eq_getElem h1, List.getElem?_eq_getElem h2, q]
      rw [e1] at q'
      simp at q'
      exact e q'
noncomputable def subN (x y : Nat) : Int := if (⟨#[x]⟩ : Str) == ⟨#[y]⟩ then 0 else if Txt.lower ⟨#[x]⟩ == Txt.lower ⟨#[y]⟩ then 1 else 2
noncomputable def min2 (a b : Int) : Int := if b < a then b else a
/-- one row: the chars of a, the row; distance, result, minimum; the new row, the result, the minimum -/
noncomputable def rowN (c : Nat) : List Nat → List Int → Int → Int → Int → List Int × Int × Int
  | x :: xs, r :: rs, d, res, mn =>
    let res' := min2 (min2 res r + 2) (d + subN c x)
    let t := rowN c xs rs r res' (if res' < mn then res' else mn)
    (res' :: t.1, t.2.1, t.2.2)
  | _, _, _, res, mn => ([], res, mn)
noncomputable def rowsN (mc : Int) (as : List Nat) : List Nat → Nat → List Int → Int → Int
  | [], _, _, res => res
  | c :: bs, i, row, _ =>
    let t := rowN c as row (i * 2) (i * 2) 9223372036854775807
    if t.2.2 > mc then mc + 1 else rowsN mc as bs (i + 1) t.1 t.2.1
noncomputable def coreN (mc : Int) (as bs : List Nat) : Int :=
  if ((bs.length : Int) - as.length) * 2 > mc then mc + 1 else rowsN mc as bs 0 ((List.range as.length).map fun i : Nat => 2 + (i : Int) * 2) 0
noncomputable def trimN (xs ys : List Nat) : List Nat × List Nat :=
  let p := preN xs ys
  let xs1 := xs.drop p
  let ys1 := ys.drop p
  let q := preN xs1.reverse ys1.reverse
  (xs1.take (xs1.length - q), ys1.take (ys1.length - q))
noncomputable def levN (xs ys : List Nat) (mc : Int) : Int :=
  if xs = ys then 0 else
    let t := trimN xs ys
    if t.1 = [] ∨ t.2 = [] then 2 * ((t.1.length : Int) + t.2.length) else
      if t.2.length < t.1.length then coreN mc t.2 t.1 else coreN mc t.1 t.2
theorem one_eq (x y : Nat) : ((⟨#[x]⟩ : Str) == ⟨#[y]⟩) = decide (x = y) := by
  rw [Bool.eq_iff_iff, beq_iff_eq, decide_eq_true_iff]
  constructor
  · intro h
    have := congrArg (fun s : Str => s.cps.toList) h
    simpa using this
  · rintro rfl; rfl
theorem preN_test {xs ys : List Nat} {p : Nat} (hp : p ≤ preN xs ys) (h1 : p < xs.length) (h2 : p < ys.length) : decide (xs[p] = ys[p]) = decide (p < preN xs ys) := by
  by_cases h : p < preN xs ys
  · have := preN_at xs ys p h
    rw [List.getElem?_eq_getElem h1, List.getElem?_eq_getElem h2] at this
    rw [decide_eq_true h, decide_eq_true (Option.some.inj this)]
  · have e : p = preN xs ys := by omega
    subst e
    rw [decide_eq_false h, decide_eq_false (preN_end xs ys h1 h2)]
end

/-! part D16 -/
section
open PySem PySem.W PyProof.Rows PySem.Calls
set_option maxRecDepth 100000
variable {W : Wd} {n : Nat}
theorem F16 : FF (scAt 16) ["a", "b", "max_cost", "pre", "post", "row", "result", "bindex", "bchar", "distance", "minimum", "index", "substitute", "insert_delete"] ["_MOVE_COST", "len", "_MAX_STRING_SIZE", "list", "range", "_substitution_cost", "min"] := ⟨by decide +kernel, by decide +kernel, by decide +kernel⟩
theorem K16 : FnOk "_levenshtein_distance" (parAt 16) (bodyAt 16) (scAt 16) ["a", "b", "max_cost"] where
  nodup := by rw [F16.nm]; decide +kernel
  plain := by rw [F16.nm]; decide +kernel
  first := by rw [F16.nm]; rfl
  kind := by rfl
  co := by rfl
  gen := by rfl
  kinds := by rw [F16.nm]; decide +kernel
  cellk := by decide +kernel
  bind := fun pm cd doc xs h => by obtain ⟨a, b, c, rfl⟩ := len_3 h; rfl
noncomputable def Lnm : List Str := ["a", "b", "max_cost", "pre", "post", "row", "result", "bindex", "bchar", "distance", "minimum", "index", "substitute", "insert_delete"]
noncomputable def whB (i j : Nat) : Expr × List Stmt := match (bodyAt i)[j]? with | some (.While t b _ _) => (t, b) | _ => default
/-- the test of the first loop -/
theorem dr_lt {xs : List Nat} {p : Nat} (e1 : ((mk (xs.drop p)).length != 0) = true) : p < xs.length := by
  rw [mk_len, List.length_drop] at e1
  have := of_decide_eq_true (p := xs.length - p ≠ 0) (by simpa using e1)
  omega
theorem tk_lt {xs : List Nat} {q : Nat} (e1 : ((mk (xs.take (xs.length - q))).length != 0) = true) : q < xs.length := by
  rw [mk_len, List.length_take] at e1
  have := of_decide_eq_true (p := min (xs.length - q) xs.length ≠ 0) (by simpa using e1)
  omega
theorem ix_ok {p len : Nat} (h : p < len) (hl : len ≤ 1000) : (-1000000 ≤ (p : Int) ∧ (p : Int) ≤ 1000000) ∧ (-1000000 ≤ -(p : Int) - 1 ∧ -(p : Int) - 1 ≤ 1000000) ∧ 0 ≤ (p : Int) ∧ (p : Int) < 1000000 ∧ (p : Int) < len ∧ len ≤ 1000000 := by omega
theorem sub_ne {p q len : Nat} (h : p < q) (h2 : q ≤ len) : len - p ≠ 0 ∧ min (len - p) len ≠ 0 := by omega
theorem lt_sub {p q : Nat} (h : p < q) : q - (p + 1) < q - p := by omega
theorem eq_of_le {p q : Nat} (h : p ≤ q) (e : decide (p < q) = false) : p = q := by have := of_decide_eq_false e; omega
theorem neg_step (q : Nat) : -(q : Int) - 1 = -((q + 1 : Nat) : Int) := by omega
theorem k1000 {a : Nat} (h : a ≤ 40) : a ≤ 1000 := Nat.le_trans h (by decide)
theorem m1000 {a : Nat} (h : a ≤ 1000) : a ≤ 1000000 := Nat.le_trans h (by decide)
theorem pre_test {xs ys : List Nat} {mc : Int} {p : Nat} (hx : xs.length ≤ 1000) (hy : ys.length ≤ 1000) (hp : p ≤ preN xs ys) :
    HB W n (scAt 16) [.imm (.str (mk xs)), .imm (.str (mk ys)), .imm (.int mc), .imm (.int (p : Int)), .unb, .unb, .unb, .unb, .unb, .unb, .unb, .unb, .unb, .unb] (whB 16 2).1 (decide (p < preN xs ys)) := by
  have F := F16.fc
  have sx : ∀ zs : List Nat, zs.length ≤ 1000 → (mk (zs.drop p)).length < 2 ^ 62 := fun zs h => by rw [mk_len, List.length_drop]; exact Nat.lt_of_le_of_lt (Nat.le_trans (Nat.sub_le ..) h) (by decide)
  have hle := preN_le xs ys
  refine HB.cast (r := ((mk (xs.drop p)).length != 0) && (((mk (ys.drop p)).length != 0) && ((decide (p < preN xs ys)) && true))) ?_ ?_
  · refine' HB.and ?h1 ?r1
    case h1 =>
      refine' HB.val ?v1 (Op.tS (sx xs hx)) ?k1
      case k1 => intro _ _; rfl
      case v1 =>
        refine HE.castV (r := .str (Txt.slice (mk xs) (some (p : Int)) none)) ?_ (by rw [slice_from])
        tm_at "x"
        rw [mk_len]; exact m1000 hx
    case r1 =>
      intro e1
      have l1 : p < xs.length := dr_lt e1
      refine' HB.and ?h2 ?r2
      case h2 =>
        refine' HB.val ?v2 (Op.tS (sx ys hy)) ?k2
        case k2 => intro _ _; rfl
        case v2 =>
          refine HE.castV (r := .str (Txt.slice (mk ys) (some (p : Int)) none)) ?_ (by rw [slice_from])
          tm_at "x"
          rw [mk_len]; exact m1000 hy
      case r2 =>
        intro e2
        have l2 : p < ys.length := dr_lt e2
        refine' HB.and ?h3 ?r3
        case h3 =>
          refine HB.cast (r := ((⟨#[xs[p]]⟩ : Str) == ⟨#[ys[p]]⟩)) ?_ (by rw [one_eq]; exact preN_test hp l1 l2)
          have i1 := fun n' => Op.itemS (W := W) (n := n') (a := mk xs) (i := (p : Int)) (ix_ok l1 hx).1.1 (ix_ok l1 hx).1.2 (item_mk xs p l1)
          have i2 := fun n' => Op.itemS (W := W) (n := n') (a := mk ys) (i := (p : Int)) (ix_ok l2 hy).1.1 (ix_ok l2 hy).1.2 (item_mk ys p l2)
          refine' HB.cmp ?q1 ?q2 Op.eqS ?q3
          case q3 => with_unfolding_all rfl
          case q1 =>
            refine' HE.sub' ?w1 ?w2 rfl (i1 n)
            case w1 => tm_at "x"
            case w2 => tm_at "x"
          case q2 =>
            refine' HE.sub' ?w3 ?w4 rfl (i2 n)
            case w3 => tm_at "x"
            case w4 => tm_at "x"
        case r3 => intro _; exact HB.andNil
  · rw [mk_len, mk_len, List.length_drop, List.length_drop]
    by_cases h : p < preN xs ys
    · have e1 : xs.length - p ≠ 0 := (sub_ne h hle.1).1
      have e2 : ys.length - p ≠ 0 := (sub_ne h hle.2).1
      simp [h, e1, e2]
    · simp [h]
theorem or_none {ρ : List Bd} {e : Expr} {k : Nat} {cp pos : Pos} {q : Nat} (he : HE W n (scAt 16) ρ e (.val (.int (-(q : Int))))) : HP W n (scAt 16) ρ (some (.BoolOp .Or [e, .Constant .none k cp] pos)) (if q = 0 then none else some (-(q : Int))) := by
  by_cases h : q = 0
  · rw [if_pos h]
    exact HP.nil (HE.orV he Op.tI (fun _ => HE.none) (by subst h; rfl))
  · rw [if_neg h]
    refine HP.some (HE.orV he Op.tI (fun _ => HE.none) ?_)
    rw [if_pos (by simp; exact h)]
theorem slice_post (l : List Nat) (q : Nat) : Txt.slice (mk l) none (if q = 0 then none else some (-(q : Int))) = mk (l.take (l.length - q)) := by
  by_cases h : q = 0
  · rw [if_pos h, h, slice_all]; simp
  · rw [if_neg h, slice_upto l q (by omega)]
theorem sl_post {ρ : List Bd} {e o : Expr} {k : Nat} {cp pos sp bp : Pos} {q : Nat} {xs : List Nat} (ho : HE W n (scAt 16) ρ o (.val (.str (mk xs)))) (he : HE W n (scAt 16) ρ e (.val (.int (-(q : Int))))) (hx : xs.length ≤ 1000) :
    HE W n (scAt 16) ρ (.Subscript o (.Slice none (some (.BoolOp .Or [e, .Constant .none k cp] bp)) none sp) pos) (.val (.str (mk (xs.take (xs.length - q))))) := by
  refine HE.castV (r := .str (Txt.slice (mk xs) none (if q = 0 then none else some (-(q : Int))))) ?_ (by rw [slice_post])
  exact HE.sub' ho (HE.slice HP.no (or_none he) HP.no) rfl (Op.sliceS (by rw [mk_len]; omega))
theorem take_last {l : List Nat} {q : Nat} (h : q < l.length) : l.reverse[q]'(by simpa using h) = l[l.length - 1 - q]'(by omega) := by rw [List.getElem_reverse]
theorem post_test {xs ys : List Nat} {mc : Int} {u : V} {q : Nat} (hx : xs.length ≤ 1000) (hy : ys.length ≤ 1000) (hq : q ≤ preN xs.reverse ys.reverse) :
    HB W n (scAt 16) [.imm (.str (mk xs)), .imm (.str (mk ys)), .imm (.int mc), .imm u, .imm (.int (-(q : Int))), .unb, .unb, .unb, .unb, .unb, .unb, .unb, .unb, .unb] (whB 16 6).1 (decide (q < preN xs.reverse ys.reverse)) := by
  have F := F16.fc
  have sx : ∀ zs : List Nat, zs.length ≤ 1000 → (mk (zs.take (zs.length - q))).length < 2 ^ 62 := fun zs h => by rw [mk_len, List.length_take]; exact Nat.lt_of_le_of_lt (Nat.le_trans (Nat.min_le_right ..) h) (by decide)
  have hle := preN_le xs.reverse ys.reverse
  rw [List.length_reverse, List.length_reverse] at hle
  refine HB.cast (r := ((mk (xs.take (xs.length - q))).length != 0) && (((mk (ys.take (ys.length - q))).length != 0) && ((decide (q < preN xs.reverse ys.reverse)) && true))) ?_ ?_
  · refine' HB.and ?h1 ?r1
    case h1 =>
      refine' HB.val (sl_post ?v1 ?v2 hx) (Op.tS (sx xs hx)) ?k1
      case k1 => intro _ _; rfl
      case v1 => tm_at "x"
      case v2 => tm_at "x"
    case r1 =>
      intro e1
      have l1 : q < xs.length := tk_lt e1
      refine' HB.and ?h2 ?r2
      case h2 =>
        refine' HB.val (sl_post ?v3 ?v4 hy) (Op.tS (sx ys hy)) ?k2
        case k2 => intro _ _; rfl
        case v3 => tm_at "x"
        case v4 => tm_at "x"
      case r2 =>
        intro e2
        have l2 : q < ys.length := tk_lt e2
        refine' HB.and ?h3 ?r3
        case h3 =>
          refine HB.cast (r := ((⟨#[xs[xs.length - 1 - q]]⟩ : Str) == ⟨#[ys[ys.length - 1 - q]]⟩)) ?_ (by
            rw [one_eq, ← take_last l1, ← take_last l2]; exact preN_test hq (by simpa using l1) (by simpa using l2))
          have i1 := fun n' => Op.itemS (W := W) (n := n') (a := mk xs) (i := -(q : Int) - 1) (ix_ok l1 hx).2.1.1 (ix_ok l1 hx).2.1.2 (item_neg xs q l1)
          have i2 := fun n' => Op.itemS (W := W) (n := n') (a := mk ys) (i := -(q : Int) - 1) (ix_ok l2 hy).2.1.1 (ix_ok l2 hy).2.1.2 (item_neg ys q l2)
          refine' HB.cmp ?q1 ?q2 Op.eqS ?q3
          case q3 => with_unfolding_all rfl
          case q1 =>
            refine' HE.sub' ?w1 ?w2 rfl (i1 n)
            case w1 => tm_at "x"
            case w2 => tm_at "x"
          case q2 =>
            refine' HE.sub' ?w3 ?w4 rfl (i2 n)
            case w3 => tm_at "x"
            case w4 => tm_at "x"
        case r3 => intro _; exact HB.andNil
  · rw [mk_len, mk_len, List.length_take, List.length_take]
    by_cases h : q < preN xs.reverse ys.reverse
    · have e1 : min (xs.length - q) xs.length ≠ 0 := (sub_ne h hle.1).2
      have e2 : min (ys.length - q) ys.length ≠ 0 := (sub_ne h hle.2).2
      simp only [decide_eq_true h, Bool.and_true, bne_iff_ne, ne_eq, e1, e2, not_false_eq_true, Bool.and_eq_true, and_self]
    · simp [h]
/-- a statement inside a statement -/
noncomputable def forOf (s : Option Stmt) : Expr × List Stmt × List Stmt := match s with | some (.For _ e b o _) => (e, b, o) | _ => default
noncomputable def outB : List Stmt := (forOf (bodyAt 16)[15]?).2.1
noncomputable def inB : List Stmt := (forOf outB[3]?).2.1
noncomputable def rowR (as bs : List Nat) (mc : Int) (pre post bi : V) (c : Nat) (row : List Int) (res d mn : Int) (x y z : Bd) : List Bd :=
  [.imm (.str (mk as)), .imm (.str (mk bs)), .imm (.int mc), .imm pre, .imm post, .mutL (row.map .int), .imm (.int res), .imm bi, .imm (.str ⟨#[c]⟩), .imm (.int d), .imm (.int mn), x, y, z]
theorem row_turn {as bs : List Nat} {mc : Int} {pre post bi : V} {c : Nat} {row : List Int} {res d mn : Int} {i : Nat} {y z : Bd} {Post : Out → List Bd → Prop}
    (hm : ∃ y, W.mg "_MOVE_COST" = some y ∧ Rep W.base.get? (.int 2) y) (hmin : Bi W "min" (.builtin "min")) (hsub : ∀ x y : Nat, CallOk W n "_substitution_cost" [.str ⟨#[x]⟩, .str ⟨#[y]⟩] (.val (.int (subN x y))))
    (ha : i < as.length) (hr : i < row.length) (hl : as.length ≤ 1000) (hl' : row.length ≤ 1000) (hyz : (y = .unb ∧ z = .unb) ∨ ∃ u w, y = .imm u ∧ z = .imm w)
    (hP : ∀ y z : V, let r := min2 (min2 res row[i] + 2) (d + subN c as[i]); Post .next (rowR as bs mc pre post bi c (row.set i r) r row[i] (if r < mn then r else mn) (.imm (.int i)) (.imm y) (.imm z))) :
    HS W n (scAt 16) (rowR as bs mc pre post bi c row res d mn (.imm (.int (i : Int))) y z) inB Post := by
  have F := F16
  have F' := F.fc
  have go : ∀ y z : Bd, ((y = .unb ∧ z = .unb) ∨ ∃ u w, y = .imm u ∧ z = .imm w) → HS W n (scAt 16) [.imm (.str (mk as)), .imm (.str (mk bs)), .imm (.int mc), .imm pre, .imm post, .mutL (row.map .int), .imm (.int res), .imm bi, .imm (.str ⟨#[c]⟩), .imm (.int d), .imm (.int mn), .imm (.int (i : Int)), y, z] inB Post := by
    intro y z hyz
    have i1 := Op.itemS (W := W) (n := n) (a := mk as) (i := (i : Int)) (ix_ok ha hl).1.1 (ix_ok ha hl).1.2 (item_mk as i ha)
    have i2 : Op W n (op2 getItem) [.list (row.map .int), .int (i : Int)] (.val (.int row[i])) := Op.itemL (ix_ok hr hl').2.2.1 (ix_ok hr hl').2.2.2.1 (by rw [Int.toNat_natCast, List.getElem?_map, List.getElem?_eq_getElem hr]; rfl)
    refine' HS.asg F (v := .int (d + subN c as[i])) ?e1 ?p1 ?n1
    case e1 =>
      refine' HE.bin ?l1 ?r1 Op.add
      case l1 => tm_at "x"
      case r1 =>
        refine' HE.fn F' ?m1 ?a1 (hsub c as[i])
        case m1 => tm_at "mem"
        case a1 =>
          refine' HA.cons ?g1 (HA.cons ?g2 HA.nil)
          case g1 => tm_at "x"
          case g2 =>
            refine' HE.sub' ?w1 ?w2 rfl i1
            case w1 => tm_at "x"
            case w2 => tm_at "x"
    case p1 => tm_at "put"
    case n1 =>
    refine' HS.asg F (v := .int row[i]) ?e2 ?p2 ?n2
    case e2 =>
      refine' HE.bwL (nms := Lnm) (x := "row") ?bp ?bh ?bv ?bo ?bl
      case bp => unfold Lnm; tm_at "put"
      case bv => rfl
      case bo => rcases hyz with ⟨rfl, rfl⟩ | ⟨u, w, rfl, rfl⟩ <;> rfl
      case bh =>
        refine' HE.sub' ?w3 ?w4 rfl i2
        case w3 => tm_at "x"
        case w4 => tm_at "x"
      case bl => rfl
    case p2 => tm_at "put"
    case n2 =>
    refine' HS.asg F (v := .int (min2 res row[i] + 2)) ?e3 ?p3 ?n3
    case e3 =>
      refine HE.castV (r := .int ((if row[i] < res then row[i] else res) + 2)) ?_ rfl
      tm_at "x"
    case p3 => tm_at "put"
    case n3 =>
    refine' HS.asg F (v := .int (min2 (min2 res row[i] + 2) (d + subN c as[i]))) ?e4 ?p4 ?n4
    case e4 =>
      refine HE.castV (r := .int (if d + subN c as[i] < min2 res row[i] + 2 then d + subN c as[i] else min2 res row[i] + 2)) ?_ rfl
      tm_at "x"
    case p4 => tm_at "put"
    case n4 =>
    generalize hrr : min2 (min2 res row[i] + 2) (d + subN c as[i]) = r at *
    refine' HS.setIdx F (xs := row.map .int) (k := (i : Int)) (v := .int r) ?e5 ?i5 ?p5 ?h5 ?h6 ?h7 ?n5 ?v5 ?o5
    case e5 => tm_at "x"
    case i5 => tm_at "x"
    case p5 => tm_at "put"
    case h5 => exact (ix_ok hr hl').2.2.1
    case h6 => rw [List.length_map]; exact (ix_ok hr hl').2.2.2.2.1
    case h7 => rw [List.length_map]; exact (ix_ok hr hl').2.2.2.2.2
    case v5 => rfl
    case o5 => rfl
    case n5 =>
    rw [Int.toNat_natCast, ← List.map_set]
    have hP' := hP (.int (d + subN c as[i])) (.int (min2 res row[i] + 2))
    simp only [] at hP'
    refine' HS.last (HT.ifS (c := decide (r < mn)) ?t6 ?a6 ?b6)
    case t6 => tm_at "b"
    case a6 =>
      intro e
      rw [if_pos (of_decide_eq_true e)] at hP'
      refine' HS.asg F ?e7 ?p7 ?n7
      case e7 => tm_at "x"
      case p7 => tm_at "put"
      case n7 => exact HS.nil hP'
    case b6 =>
      intro e
      rw [if_neg (of_decide_eq_false e)] at hP'
      exact HS.nil hP'
  exact go y z hyz
noncomputable def Tri (x y z : Bd) : Prop := (x = .unb ∧ y = .unb ∧ z = .unb) ∨ ∃ u w v, x = .imm u ∧ y = .imm w ∧ z = .imm v
theorem rowN_len (c : Nat) : ∀ (xs : List Nat) (rs : List Int) (d res mn : Int), xs.length = rs.length → (rowN c xs rs d res mn).1.length = xs.length
  | [], rs, d, res, mn, h => by simp [rowN]
  | x :: xs, [], d, res, mn, h => by simp at h
  | x :: xs, r :: rs, d, res, mn, h => by simp [rowN]; exact rowN_len c xs rs _ _ _ (by simpa using h)
theorem range_size (k : Nat) : Builtin.Range.rangeSize 0 (k : Int) 1 = (k : Nat) := by
  unfold Builtin.Range.rangeSize
  simp only [show (1 : Int) > 0 by decide, if_true, Int.ediv_one]
  by_cases h : k = 0
  · subst h; rfl
  · rw [if_pos (by omega)]; omega
theorem range_small {k : Nat} (h : k ≤ 1000) : Builtin.Range.small 0 (k : Int) 1 = true := by
  unfold Builtin.Range.small
  have f : ∀ z : Int, 0 ≤ z → z ≤ 2000 → Builtin.Range.rangeFitsLong z = true := by
    intro z h0 h1
    have e63 : (2 : Int) ^ 63 = 9223372036854775808 := by decide
    unfold Builtin.Range.rangeFitsLong
    simp; omega
  rw [range_size, if_pos (by decide), f 0 (by omega) (by omega), f (k : Int) (by omega) (by omega), f 1 (by omega) (by omega), f ((k : Int) + (1 - 1)) (by omega) (by omega)]
  simp
theorem row_loop {as bs : List Nat} {mc : Int} {pre post bi : V} {c : Nat} {row : List Int} {res d mn : Int} {x y z : Bd} {rest : List Stmt} {Post : Out → List Bd → Prop}
    (hm : ∃ y, W.mg "_MOVE_COST" = some y ∧ Rep W.base.get? (.int 2) y) (hmin : Bi W "min" (.builtin "min")) (hrg : Bi W "range" (.type "range")) (hln : Bi W "len" (.builtin "len")) (hsub : ∀ x y : Nat, CallOk W n "_substitution_cost" [.str ⟨#[x]⟩, .str ⟨#[y]⟩] (.val (.int (subN x y))))
    (hl : as.length ≤ 1000) (hrow : row.length = as.length) (ht : Tri x y z)
    (hfin : ∀ d' x y z, Tri x y z → HS W n (scAt 16) (rowR as bs mc pre post bi c (rowN c as row d res mn).1 (rowN c as row d res mn).2.1 d' (rowN c as row d res mn).2.2 x y z) rest Post) :
    HS W n (scAt 16) (rowR as bs mc pre post bi c row res d mn x y z) (outB[3]! :: rest) Post := by
  have F := F16
  have F' := F.fc
  obtain ⟨T, hT⟩ : ∃ T, rowN c as row d res mn = T := ⟨_, rfl⟩
  rw [hT] at hfin
  let Inv : Nat → List Bd → Prop := fun i ρ => ∃ (row' : List Int) (res' d' mn' : Int) (x y z : Bd), ρ = rowR as bs mc pre post bi c row' res' d' mn' x y z ∧ Tri x y z ∧ row'.length = as.length ∧ i ≤ as.length ∧
    (row'.take i ++ (rowN c (as.drop i) (row'.drop i) d' res' mn').1, (rowN c (as.drop i) (row'.drop i) d' res' mn').2) = T
  have hk := range_size as.length
  have hsm := range_small (k := as.length) (by omega)
  show HS W n (scAt 16) _ (.For (.Name _ _) _ inB [] _ :: rest) Post
  refine' HS.thn (HT.for Inv 11 ?hi ?h0 ?hturn ?hend ?hx ?hfr ?hs)
  case hi =>
    refine' HI.v ?hiv (OpI.range hsm hk)
    case hiv =>
      unfold rowR
      refine HE.castV (r := .range 0 ((mk as).length : Nat) 1) ?_ (by rw [mk_len])
      tm_at "x"
      rw [mk_len]; exact Nat.lt_of_le_of_lt hl (by decide)
  case h0 => exact ⟨row, res, d, mn, x, y, z, rfl, ht, hrow, Nat.zero_le _, by simpa using hT⟩
  case hx => rw [F.nm]; rfl
  case hfr => decide +kernel
  case hs => intro _ _; rfl
  case hturn =>
    rintro i v ρ' hv ⟨row', res', d', mn', x, y, z, rfl, ht, hlen, hi, hinv⟩
    have hi' : i < as.length := by
      have := (List.getElem?_eq_some_iff.mp hv).1
      simpa [rangeInts] using this
    have hvd' : v = .int (i : Int) := by
      rw [List.getElem?_map, rangeInts, List.getElem?_map, List.getElem?_range hi'] at hv
      have := (Option.some.inj hv).symm
      rw [this]
      show V.int (0 + (i : Int) * 1) = _
      rw [Int.mul_one, Int.zero_add]
    subst hvd'
    refine row_turn (y := y) (z := z) hm hmin hsub hi' (by omega) hl (by omega) ?_ fun y' z' => ?_
    · rcases ht with ⟨_, rfl, rfl⟩ | ⟨u, w, v, _, rfl, rfl⟩
      · exact .inl ⟨rfl, rfl⟩
      · exact .inr ⟨_, _, rfl, rfl⟩
    · refine ⟨_, _, _, _, _, _, _, rfl, .inr ⟨_, _, _, rfl, rfl, rfl⟩, by rw [List.length_set]; exact hlen, by omega, ?_⟩
      rw [← hinv]
      have e1 := List.drop_eq_getElem_cons hi'
      have e2 := List.drop_eq_getElem_cons (show i < row'.length by omega)
      rw [e1, e2]
      simp only [rowN]
      rw [List.take_set, List.drop_set_of_lt (by omega)]
      have e3 : (row'.take (i + 1)).set i (min2 (min2 res' row'[i] + 2) (d' + subN c as[i])) = row'.take i ++ [min2 (min2 res' row'[i] + 2) (d' + subN c as[i])] := by
        rw [List.take_succ_eq_append_getElem (show i < row'.length by omega), List.set_append_right _ _ (by simp; omega)]
        simp [show min i row'.length = i by omega]
      rw [e3, List.append_assoc]
      rfl
  case hend =>
    rintro ρ' ⟨row', res', d', mn', x, y, z, rfl, ht, hlen, hi, hinv⟩
    have hva : ((rangeInts 0 1 as.length).map V.int).length = as.length := by simp [rangeInts]
    rw [hva] at hinv hi
    rw [List.drop_length, ← hlen, List.take_length, List.drop_length] at hinv
    simp only [rowN, List.append_nil] at hinv
    subst hinv
    exact HS.next (hfin d' x y z ht)
noncomputable def outR (as bs : List Nat) (mc : Int) (pre post : V) (row : List Int) (res : Int) (bi bc d mn x y z : Bd) : List Bd :=
  [.imm (.str (mk as)), .imm (.str (mk bs)), .imm (.int mc), .imm pre, .imm post, .mutL (row.map .int), .imm (.int res), bi, bc, d, mn, x, y, z]
noncomputable def Qua (x y z w : Bd) : Prop := (x = .unb ∧ y = .unb ∧ z = .unb ∧ w = .unb) ∨ ∃ a b c d, x = .imm a ∧ y = .imm b ∧ z = .imm c ∧ w = .imm d
theorem out_turn {as bs : List Nat} {mc : Int} {pre post : V} {row : List Int} {res : Int} {i : Nat} {bc d mn x y z : Bd} {Post : Out → List Bd → Prop}
    (hm : ∃ y, W.mg "_MOVE_COST" = some y ∧ Rep W.base.get? (.int 2) y) (hmin : Bi W "min" (.builtin "min")) (hrg : Bi W "range" (.type "range")) (hln : Bi W "len" (.builtin "len")) (hsub : ∀ x y : Nat, CallOk W n "_substitution_cost" [.str ⟨#[x]⟩, .str ⟨#[y]⟩] (.val (.int (subN x y))))
    (hl : as.length ≤ 1000) (hb : i < bs.length) (hbl : bs.length ≤ 1000) (hrow : row.length = as.length) (ht : Tri x y z) 
    (hq : (bc = .unb ∧ d = .unb ∧ mn = .unb) ∨ ∃ a b c, bc = .imm a ∧ d = .imm b ∧ mn = .imm c)
    (hR : (rowN bs[i] as row (i * 2) (i * 2) 9223372036854775807).2.2 > mc → ∀ ρ, Post (.ret (.int (mc + 1))) ρ)
    (hN : ¬ (rowN bs[i] as row (i * 2) (i * 2) 9223372036854775807).2.2 > mc → ∀ a b c d x y z, Tri x y z → Post .next (outR as bs mc pre post (rowN bs[i] as row (i * 2) (i * 2) 9223372036854775807).1 (rowN bs[i] as row (i * 2) (i * 2) 9223372036854775807).2.1 (.imm a) (.imm b) (.imm c) (.imm d) x y z)) :
    HS W n (scAt 16) (outR as bs mc pre post row res (.imm (.int (i : Int))) bc d mn x y z) outB Post := by
  have F := F16
  have F' := F.fc
  have i1 := Op.itemS (W := W) (n := n) (a := mk bs) (i := (i : Int)) (by omega) (by omega) (item_mk bs i hb)
  show HS W n (scAt 16) [.imm (.str (mk as)), .imm (.str (mk bs)), .imm (.int mc), .imm pre, .imm post, .mutL (row.map .int), .imm (.int res), .imm (.int (i : Int)), bc, d, mn, x, y, z] outB Post
  refine' HS.asg F (v := .str ⟨#[bs[i]]⟩) ?e1 ?p1 ?n1
  case e1 =>
    refine' HE.sub' ?w1 ?w2 rfl i1
    case w1 => tm_at "x"
    case w2 => tm_at "x"
  case p1 => tm_at "put"
  case n1 =>
  refine' HS.assign2 9 6 (v := .int (i * 2)) ?e2 ?n2 ?x2 ?y2 ?f2 ?g2
  case e2 =>
    tm_at "x"
    exact IntMulOk.of_left (Nat.le_trans (intBits_nn (m := 10) (by omega) (by omega)) (by decide))
  case x2 => rw [F.nm]; rfl
  case y2 => rw [F.nm]; rfl
  case f2 => decide +kernel
  case g2 => decide +kernel
  case n2 =>
  show HS W n (scAt 16) [.imm (.str (mk as)), .imm (.str (mk bs)), .imm (.int mc), .imm pre, .imm post, .mutL (row.map .int), .imm (.int (i * 2)), .imm (.int (i : Int)), .imm (.str ⟨#[bs[i]]⟩), .imm (.int (i * 2)), mn, x, y, z] (outB.drop 2) Post
  refine' HS.asg F ?e3 ?p3 ?n3
  case e3 => tm_at "x"
  case p3 => tm_at "put"
  case n3 =>
  refine row_loop (rest := outB.drop 4) (c := bs[i]) (res := i * 2) (d := i * 2) (mn := 9223372036854775807) hm hmin hrg hln hsub hl hrow ht fun d' x y z ht' => ?_
  generalize rowN bs[i] as row (i * 2) (i * 2) 9223372036854775807 = T at *
  show HS W n (scAt 16) [.imm (.str (mk as)), .imm (.str (mk bs)), .imm (.int mc), .imm pre, .imm post, .mutL (T.1.map .int), .imm (.int T.2.1), .imm (.int (i : Int)), .imm (.str ⟨#[bs[i]]⟩), .imm (.int d'), .imm (.int T.2.2), x, y, z] (outB.drop 4) Post
  refine' HS.last (HT.ifS (c := decide (T.2.2 > mc)) ?t6 ?a6 ?b6)
  case t6 => tm_at "b"
  case a6 =>
    intro e
    refine' HS.ret ?hret ?hpost
    case hret => tm_at "x"
    case hpost => exact hR (of_decide_eq_true e) _
  case b6 =>
    intro e
    exact HS.nil (hN (of_decide_eq_false e) _ _ _ _ x y z ht')
theorem out_loop {as bs : List Nat} {mc : Int} {pre post : V} {row : List Int} 
    (hm : ∃ y, W.mg "_MOVE_COST" = some y ∧ Rep W.base.get? (.int 2) y) (hmin : Bi W "min" (.builtin "min")) (hrg : Bi W "range" (.type "range")) (hln : Bi W "len" (.builtin "len")) (hsub : ∀ x y : Nat, CallOk W n "_substitution_cost" [.str ⟨#[x]⟩, .str ⟨#[y]⟩] (.val (.int (subN x y))))
    (hl : as.length ≤ 1000) (hbl : bs.length ≤ 1000) (hrow : row.length = as.length) :
    HS W n (scAt 16) (outR as bs mc pre post row 0 .unb .unb .unb .unb .unb .unb .unb) ((bodyAt 16).drop 15) (fnPost (.int (rowsN mc as bs 0 row 0))) := by
  have F := F16
  have F' := F.fc
  obtain ⟨T, hT⟩ : ∃ T, rowsN mc as bs 0 row 0 = T := ⟨_, rfl⟩
  rw [hT]
  let Inv : Nat → List Bd → Prop := fun i ρ => ∃ (row' : List Int) (res : Int) (bi bc d mn x y z : Bd), ρ = outR as bs mc pre post row' res bi bc d mn x y z ∧ Qua bi bc d mn ∧ Tri x y z ∧ row'.length = as.length ∧ i ≤ bs.length ∧ rowsN mc as (bs.drop i) i row' res = T
  have hk := range_size bs.length
  have hsm := range_small (k := bs.length) hbl
  show HS W n (scAt 16) _ (.For (.Name _ _) _ outB [] _ :: (bodyAt 16).drop 16) _
  refine' HS.thn (HT.for Inv 7 ?hi ?h0 ?hturn ?hend ?hx ?hfr ?hs)
  case hi =>
    refine' HI.v ?hiv (OpI.range hsm hk)
    case hiv =>
      unfold outR
      refine HE.castV (r := .range 0 ((mk bs).length : Nat) 1) ?_ (by rw [mk_len])
      tm_at "x"
      rw [mk_len]; exact Nat.lt_of_le_of_lt hbl (by decide)
  case h0 => exact ⟨row, 0, .unb, .unb, .unb, .unb, .unb, .unb, .unb, rfl, .inl ⟨rfl, rfl, rfl, rfl⟩, .inl ⟨rfl, rfl, rfl⟩, hrow, Nat.zero_le _, hT⟩
  case hx => rw [F.nm]; rfl
  case hfr => decide +kernel
  case hs => intro _ _; rfl
  case hturn =>
    rintro i v ρ' hv ⟨row', res, bi, bc, d, mn, x, y, z, rfl, hq, ht, hlen, hi, hinv⟩
    have hi' : i < bs.length := by
      have := (List.getElem?_eq_some_iff.mp hv).1
      simpa [rangeInts] using this
    have hvd' : v = .int (i : Int) := by
      rw [List.getElem?_map, rangeInts, List.getElem?_map, List.getElem?_range hi'] at hv
      have := (Option.some.inj hv).symm
      rw [this]
      show V.int (0 + (i : Int) * 1) = _
      rw [Int.mul_one, Int.zero_add]
    subst hvd'
    rw [List.drop_eq_getElem_cons hi'] at hinv
    simp only [rowsN] at hinv
    refine out_turn (bc := bc) (d := d) (mn := mn) (x := x) (y := y) (z := z) hm hmin hrg hln hsub hl hi' hbl hlen ht ?_ (fun h ρ => ?_) (fun h a b c d x y z ht' => ?_)
    · rcases hq with ⟨_, rfl, rfl, rfl⟩ | ⟨a, b, c, d, _, rfl, rfl, rfl⟩
      · exact .inl ⟨rfl, rfl, rfl⟩
      · exact .inr ⟨_, _, _, rfl, rfl, rfl⟩
    · rw [if_pos h] at hinv
      show V.int _ = V.int _
      rw [hinv]
    · rw [if_neg h] at hinv
      exact ⟨_, _, _, _, _, _, x, y, z, rfl, .inr ⟨_, _, _, _, rfl, rfl, rfl, rfl⟩, ht', by rw [rowN_len _ _ _ _ _ _ hlen.symm], by omega, hinv⟩
  case hend =>
    rintro ρ' ⟨row', res, bi, bc, d, mn, x, y, z, rfl, hq, ht, hlen, hi, hinv⟩
    have hva : ((rangeInts 0 1 bs.length).map V.int).length = bs.length := by simp [rangeInts]
    rw [hva, List.drop_length] at hinv
    refine HS.next ?_
    show HS W n (scAt 16) [.imm (.str (mk as)), .imm (.str (mk bs)), .imm (.int mc), .imm pre, .imm post, .mutL (row'.map .int), .imm (.int res), bi, bc, d, mn, x, y, z] ((bodyAt 16).drop 16) _
    refine' HS.ret ?hret ?hpost
    case hret => tm_at "x"
    case hpost => show V.int _ = V.int _; rw [← hinv]; rfl
theorem mk_inj (xs ys : List Nat) : (mk xs == mk ys) = decide (xs = ys) := by
  rw [Bool.eq_iff_iff, beq_iff_eq, decide_eq_true_iff]
  constructor
  · intro h
    have := congrArg (fun s : Str => s.cps.toList) h
    simpa [mk] using this
  · rintro rfl; rfl
theorem range_size2 (k : Nat) : Builtin.Range.rangeSize 2 (2 * ((k : Int) + 1)) 2 = (k : Nat) := by
  unfold Builtin.Range.rangeSize
  simp only [show (2 : Int) > 0 by decide, if_true]
  by_cases h : k = 0
  · subst h; rfl
  · rw [if_pos (by omega)]; omega
theorem range_small2 {k : Nat} (h : k ≤ 900) : Builtin.Range.small 2 (2 * ((k : Int) + 1)) 2 = true := by
  unfold Builtin.Range.small
  have f : ∀ z : Int, 0 ≤ z → z ≤ 2000 → Builtin.Range.rangeFitsLong z = true := by
    intro z h0 h1
    have e63 : (2 : Int) ^ 63 = 9223372036854775808 := by decide
    unfold Builtin.Range.rangeFitsLong
    simp; omega
  rw [range_size2, if_pos (by decide), f 2 (by omega) (by omega), f (2 * ((k : Int) + 1)) (by omega) (by omega), f (k : Int) (by omega) (by omega), f (2 * ((k : Int) + 1) + (2 - 1)) (by omega) (by omega)]
  simp
/-- from the bound on -/
theorem lev_core {as bs : List Nat} {mc : Int} {pre post : V}
    (hm : ∃ y, W.mg "_MOVE_COST" = some y ∧ Rep W.base.get? (.int 2) y) (hmin : Bi W "min" (.builtin "min")) (hrg : Bi W "range" (.type "range")) (hli : Bi W "list" (.type "list")) (hln : Bi W "len" (.builtin "len")) (hsub : ∀ x y : Nat, CallOk W n "_substitution_cost" [.str ⟨#[x]⟩, .str ⟨#[y]⟩] (.val (.int (subN x y))))
    (hl : as.length ≤ 40) (hbl : bs.length ≤ 40) :
    HS W n (scAt 16) [.imm (.str (mk as)), .imm (.str (mk bs)), .imm (.int mc), .imm pre, .imm post, .unb, .unb, .unb, .unb, .unb, .unb, .unb, .unb, .unb] ((bodyAt 16).drop 12) (fnPost (.int (coreN mc as bs))) := by
  have F := F16
  have F' := F.fc
  have la : (mk as).length < 2 ^ 62 := by rw [mk_len]; exact Nat.lt_of_le_of_lt hl (by decide)
  have lb : (mk bs).length < 2 ^ 62 := by rw [mk_len]; exact Nat.lt_of_le_of_lt hbl (by decide)
  refine' HS.ifN (c := decide (((bs.length : Int) - as.length) * 2 > mc)) ?t1 ?a1 ?b1
  case t1 =>
    refine HB.cast (r := decide ((((mk bs).length : Int) - (mk as).length) * 2 > mc)) ?_ (by rw [mk_len, mk_len])
    refine' HB.cmp ?l1 ?r1 Op.gt ?m1
    case m1 => with_unfolding_all rfl
    case r1 => tm_at "x"
    case l1 =>
    refine' HE.bin ?l2 ?r2 (Op.mul ?o2)
    case r2 => tm_at "x"
    case l2 =>
      tm_at "x"
      all_goals assumption
    case o2 =>
    exact IntMulOk.of_left (by
      rw [mk_len, mk_len]
      exact Nat.le_trans (intBits_le (m := 7) (by omega)) (by decide))
  case a1 =>
    intro e
    refine' HS.ret ?hret ?hpost
    case hret => tm_at "x"
    case hpost => show V.int _ = V.int _; unfold coreN; rw [if_pos (of_decide_eq_true e)]
  case b1 =>
    intro e
    refine' HS.asgL F (v := ((List.range as.length).map fun i : Nat => 2 + (i : Int) * 2).map .int) ?e2 ?p2 ?n2
    case e2 =>
      refine' HE.ty F' ?m1 hli ?a1 (OpC.listRange (range_small2 (k := as.length) (by omega)) (range_size2 as.length) (by omega)) ?h1 ?h2
      case h1 => intro _; rfl
      case h2 => intro _; rfl
      case m1 => tm_at "mem"
      case a1 =>
      refine' HA.cons ?x1 HA.nil
      refine' HE.castV (r := .range 2 (2 * (((mk as).length : Nat) + 1)) 2) ?x2 ?x3
      case x3 => rw [mk_len]
      case x2 =>
      refine' HE.ty F' ?m2 hrg ?a2 (OpC.range3 (by decide) (by decide)) ?h3 ?h4
      case h3 => intro _; rfl
      case h4 => intro _; rfl
      case m2 => tm_at "mem"
      case a2 =>
      refine' HA.cons ?y1 (HA.cons ?y2 (HA.cons ?y3 HA.nil))
      case y1 => tm_at "x"
      case y3 => tm_at "x"
      case y2 =>
        refine' HE.bin ?l8 ?r8 (Op.mul (IntMulOk.of_left (by decide)))
        case l8 => tm_at "x"
        case r8 =>
          tm_at "x"
          exact la
    case p2 => tm_at "put"
    case n2 =>
    refine' HS.asg F ?e3 ?p3 ?n3
    case e3 => tm_at "x"
    case p3 => tm_at "put"
    case n3 =>
    have := out_loop (W := W) (n := n) (as := as) (bs := bs) (mc := mc) (pre := pre) (post := post) (row := (List.range as.length).map fun i : Nat => 2 + (i : Int) * 2) hm hmin hrg hln hsub (by omega) (by omega) (by simp)
    unfold coreN
    rw [if_neg (of_decide_eq_false e)]
    exact this
/-- from the trimmed texts on -/
theorem lev_mid {xs ys : List Nat} {mc : Int} {pre post : V}
    (hm : ∃ y, W.mg "_MOVE_COST" = some y ∧ Rep W.base.get? (.int 2) y) (hmx : ∃ y, W.mg "_MAX_STRING_SIZE" = some y ∧ Rep W.base.get? (.int 40) y) (hmin : Bi W "min" (.builtin "min")) (hrg : Bi W "range" (.type "range")) (hli : Bi W "list" (.type "list")) (hln : Bi W "len" (.builtin "len")) (hsub : ∀ x y : Nat, CallOk W n "_substitution_cost" [.str ⟨#[x]⟩, .str ⟨#[y]⟩] (.val (.int (subN x y))))
    (hl : xs.length ≤ 40) (hbl : ys.length ≤ 40) :
    HS W n (scAt 16) [.imm (.str (mk xs)), .imm (.str (mk ys)), .imm (.int mc), .imm pre, .imm post, .unb, .unb, .unb, .unb, .unb, .unb, .unb, .unb, .unb] ((bodyAt 16).drop 9)
      (fnPost (.int (if xs = [] ∨ ys = [] then 2 * ((xs.length : Int) + ys.length) else if ys.length < xs.length then coreN mc ys xs else coreN mc xs ys))) := by
  have F := F16
  have F' := F.fc
  have la : (mk xs).length < 2 ^ 62 := by rw [mk_len]; exact Nat.lt_of_le_of_lt hl (by decide)
  have lb : (mk ys).length < 2 ^ 62 := by rw [mk_len]; exact Nat.lt_of_le_of_lt hbl (by decide)
  refine' HS.ifN (c := decide (xs = [] ∨ ys = [])) ?t0 ?a0 ?b0
  case t0 =>
    refine HB.cast (r := (!((mk xs).length != 0)) || ((!((mk ys).length != 0)) || false)) ?_ ?_
    · refine' HB.or ?h1 ?h2
      case h1 => exact HB.not (HB.val (by tm_at "x") (Op.tS la))
      case h2 =>
        intro _
        refine' HB.or ?h3 ?h4
        case h3 => exact HB.not (HB.val (by tm_at "x") (Op.tS lb))
        case h4 => intro _; exact HB.orNil
    · rw [mk_len, mk_len]
      cases xs <;> cases ys <;> simp
  case a0 =>
    intro e
    rw [if_pos (of_decide_eq_true e)]
    refine' HS.ret ?hret ?hpost
    case hret =>
      refine HE.castV (r := .int (2 * (((mk xs).length : Int) + (mk ys).length))) ?_ (by rw [mk_len, mk_len])
      refine' HE.bin ?l1 ?r1 (Op.mul (IntMulOk.of_left (by decide)))
      case l1 => tm_at "x"
      case r1 =>
        tm_at "x"
        all_goals assumption
    case hpost => exact rfl
  case b0 =>
  intro e
  rw [if_neg (of_decide_eq_false e)]
  refine' HS.ifN (c := false) ?t1 ?a1 ?b1
  case t1 =>
    refine HB.cast (r := decide (((mk xs).length : Int) > 40) || (decide (((mk ys).length : Int) > 40) || false)) ?_ (by rw [mk_len, mk_len, decide_eq_false (by omega), decide_eq_false (by omega)]; rfl)
    refine' HB.or ?h5 ?h6
    case h5 =>
      tm_at "b"
      all_goals assumption
    case h6 =>
      intro _
      refine' HB.or ?h7 ?h8
      case h7 =>
        tm_at "b"
        all_goals assumption
      case h8 => intro _; exact HB.orNil
  case a1 => intro h; cases h
  case b1 =>
  intro _
  refine' HS.ifN (c := decide (ys.length < xs.length)) ?t2 ?a2 ?b2
  case t2 =>
    refine HB.cast (r := decide (((mk ys).length : Int) < (mk xs).length)) ?_ (by rw [mk_len, mk_len]; simp)
    tm_at "b"
    all_goals assumption
  case a2 =>
    intro e2
    rw [if_pos (of_decide_eq_true e2)]
    refine' HS.swap F ?e3 ?p3 ?q3 ?n3 ?s3 ?w3
    case e3 => tm_at "x"
    case p3 => tm_at "put"
    case q3 => tm_at "put"
    case s3 => intro _; rfl
    case w3 => (intro env h; obtain ⟨_, _, _, _, _, _, _, _, _⟩ := env; cases h; rfl)
    case n3 => exact HS.next (lev_core hm hmin hrg hli hln hsub hbl hl)
  case b2 =>
    intro e2
    rw [if_neg (of_decide_eq_false e2)]
    exact lev_core hm hmin hrg hli hln hsub hl hbl
theorem lev_ok {xs ys : List Nat} {mc : Int} (D : DefAt W "_levenshtein_distance" (parAt 16) (bodyAt 16) (scAt 16))
    (hm : ∃ y, W.mg "_MOVE_COST" = some y ∧ Rep W.base.get? (.int 2) y) (hmx : ∃ y, W.mg "_MAX_STRING_SIZE" = some y ∧ Rep W.base.get? (.int 40) y) (hmin : Bi W "min" (.builtin "min")) (hrg : Bi W "range" (.type "range")) (hli : Bi W "list" (.type "list")) (hln : Bi W "len" (.builtin "len")) (hsub : ∀ x y : Nat, CallOk W n "_substitution_cost" [.str ⟨#[x]⟩, .str ⟨#[y]⟩] (.val (.int (subN x y))))
    (hl : xs.length ≤ 40) (hbl : ys.length ≤ 40) : CallOk W (n + 1) "_levenshtein_distance" [.str (mk xs), .str (mk ys), .int mc] (.val (.int (levN xs ys mc))) := by
  refine CallOk.of D K16 rfl ?_
  have F := F16
  have F' := F.fc
  rw [F.nm]
  show HS W n (scAt 16) [.imm (.str (mk xs)), .imm (.str (mk ys)), .imm (.int mc), .unb, .unb, .unb, .unb, .unb, .unb, .unb, .unb, .unb, .unb, .unb] (bodyAt 16) _
  refine' HS.ifN (c := decide (xs = ys)) ?t0 ?a0 ?b0
  case t0 =>
    refine HB.cast (r := mk xs == mk ys) ?_ (mk_inj xs ys)
    tm_at "b"
  case a0 =>
    intro e
    refine' HS.ret ?hret ?hpost
    case hret => tm_at "x"
    case hpost => show V.int _ = V.int _; unfold levN; rw [if_pos (of_decide_eq_true e)]
  case b0 =>
  intro e
  unfold levN
  rw [if_neg (of_decide_eq_false e)]
  refine' HS.asg F (v := .int ((0 : Nat) : Int)) ?e1 ?p1 ?n1
  case e1 => exact HE.int
  case p1 => tm_at "put"
  case n1 =>
  let Inv : Nat → List Bd → Prop := fun k ρ => ∃ p : Nat, p ≤ preN xs ys ∧ k = preN xs ys - p ∧ ρ = [.imm (.str (mk xs)), .imm (.str (mk ys)), .imm (.int mc), .imm (.int (p : Int)), .unb, .unb, .unb, .unb, .unb, .unb, .unb, .unb, .unb, .unb]
  refine' HS.thn (HT.while Inv (preN xs ys) ?h0 ?hturn)
  case h0 => exact ⟨0, Nat.zero_le _, rfl, rfl⟩
  case hturn =>
  rintro k ρ ⟨p, hp, rfl, rfl⟩
  refine ⟨_, pre_test (k1000 hl) (k1000 hbl) hp, fun e => ?_, fun e => ?_⟩
  · have hlt := of_decide_eq_true e
    refine' HS.augm F (w := .int ((p + 1 : Nat) : Int)) ?p2 ?u2 ?e2 ?o2 ?n2
    case p2 => tm_at "put"
    case u2 => rfl
    case e2 => tm_at "x"
    case o2 => exact Op.iadd
    case n2 => exact HS.nil ⟨preN xs ys - (p + 1), lt_sub hlt, p + 1, hlt, rfl, rfl⟩
  · have hpe : p = preN xs ys := eq_of_le hp e
    have hle := preN_le xs ys
    refine HS.next ?_
    refine' HS.asg F (v := .str (mk (xs.drop p))) ?e3 ?p3 ?n3
    case e3 =>
      refine HE.castV (r := .str (Txt.slice (mk xs) (some (p : Int)) none)) ?_ (by rw [slice_from])
      tm_at "x"
      rw [mk_len]; exact m1000 (k1000 hl)
    case p3 => tm_at "put"
    case n3 =>
    refine' HS.asg F (v := .str (mk (ys.drop p))) ?e4 ?p4 ?n4
    case e4 =>
      refine HE.castV (r := .str (Txt.slice (mk ys) (some (p : Int)) none)) ?_ (by rw [slice_from])
      tm_at "x"
      rw [mk_len]; exact m1000 (k1000 hbl)
    case p4 => tm_at "put"
    case n4 =>
    subst hpe
    unfold trimN
    have l1 : (xs.drop (preN xs ys)).length ≤ 40 := Nat.le_trans (by rw [List.length_drop]; exact Nat.sub_le ..) hl
    have l2 : (ys.drop (preN xs ys)).length ≤ 40 := Nat.le_trans (by rw [List.length_drop]; exact Nat.sub_le ..) hbl
    simp only []
    generalize xs.drop (preN xs ys) = xs1 at *
    generalize ys.drop (preN xs ys) = ys1 at *
    generalize hpv : (preN xs ys : Int) = pv at *
    refine' HS.asg F (v := .int (-((0 : Nat) : Int))) ?e5 ?p5 ?n5
    case e5 => exact HE.int
    case p5 => tm_at "put"
    case n5 =>
    let Inv2 : Nat → List Bd → Prop := fun k ρ => ∃ q : Nat, q ≤ preN xs1.reverse ys1.reverse ∧ k = preN xs1.reverse ys1.reverse - q ∧ ρ = [.imm (.str (mk xs1)), .imm (.str (mk ys1)), .imm (.int mc), .imm (.int pv), .imm (.int (-(q : Int))), .unb, .unb, .unb, .unb, .unb, .unb, .unb, .unb, .unb]
    refine' HS.thn (HT.while Inv2 (preN xs1.reverse ys1.reverse) ?h2 ?hturn2)
    case h2 => exact ⟨0, Nat.zero_le _, rfl, rfl⟩
    case hturn2 =>
    rintro k ρ ⟨q, hq, rfl, rfl⟩
    refine ⟨_, post_test (k1000 l1) (k1000 l2) hq, fun e => ?_, fun e => ?_⟩
    · have hlt := of_decide_eq_true e
      refine' HS.augm F (w := .int (-((q + 1 : Nat) : Int))) ?p6 ?u6 ?e6 ?o6 ?n6
      case p6 => tm_at "put"
      case u6 => rfl
      case e6 => tm_at "x"
      case o6 =>
        have := Op.isub (W := W) (n := n) (a := -(q : Int)) (b := 1)
        rw [neg_step] at this
        exact this
      case n6 => exact HS.nil ⟨preN xs1.reverse ys1.reverse - (q + 1), lt_sub hlt, q + 1, hlt, rfl, rfl⟩
    · have hqe : q = preN xs1.reverse ys1.reverse := eq_of_le hq e
      subst hqe
      generalize preN xs1.reverse ys1.reverse = q at *
      refine HS.next ?_
      refine' HS.asg F (v := .str (mk (xs1.take (xs1.length - q)))) ?e7 ?p7 ?n7
      case e7 => exact sl_post (by tm_at "x") (by tm_at "x") (k1000 l1)
      case p7 => tm_at "put"
      case n7 =>
      refine' HS.asg F (v := .str (mk (ys1.take (ys1.length - q)))) ?e8 ?p8 ?n8
      case e8 => exact sl_post (by tm_at "x") (by tm_at "x") (k1000 l2)
      case p8 => tm_at "put"
      case n8 =>
      exact lev_mid hm hmx hmin hrg hli hln hsub (Nat.le_trans (by rw [List.length_take]; exact Nat.min_le_right ..) l1) (Nat.le_trans (by rw [List.length_take]; exact Nat.min_le_right ..) l2)
end

/-! part G18 -/
section
open PySem PySem.W PyProof.Rows PySem.Calls
set_option maxRecDepth 100000
variable {W : Wd} {n : Nat}
theorem F18 : FF (scAt 18) ["names"] ["range"] := ⟨by decide +kernel, by decide +kernel, by decide +kernel⟩
theorem K18 : FnOk "_law_names" (parAt 18) (bodyAt 18) (scAt 18) [] where
  nodup := by rw [F18.nm]; decide +kernel
  plain := by rw [F18.nm]; decide +kernel
  first := by rw [F18.nm]; rfl
  kind := by rfl
  co := by rfl
  gen := by rfl
  kinds := by rw [F18.nm]; decide +kernel
  cellk := by decide +kernel
  bind := fun pm cd doc xs h => by rw [len_0 h]; rfl
noncomputable def names5 : List Str := ["OPTIMIZED", "NEWLOCALS", "VARARGS", "VARKEYWORDS", "NESTED"]
noncomputable def names10 : List Str := names5 ++ (["GENERATOR", "NOFREE", "COROUTINE", "ITERABLE_COROUTINE", "ASYNC_GENERATOR"] : List Str)
noncomputable def digI (k : Int) : Nat := ([49, 50, 52, 56] : List Nat).getD (k.fmod 4).toNat 49
noncomputable def hexI (k : Int) : Str := ("0x" : Str) ++ ⟨#[digI k]⟩ ++ Txt.mul "0" (k.fdiv 4)
noncomputable def flagN : List Str := names10 ++ (rangeInts 10 1 22).map hexI
theorem k_range : ∀ k ∈ rangeInts 10 1 22, (-1000000 ≤ k.fmod 4 ∧ k.fmod 4 ≤ 1000000) ∧ 0 ≤ k.fdiv 4 ∧ k.fdiv 4 ≤ 1000 := by decide +kernel
theorem dig_at : ∀ k ∈ rangeInts 10 1 22, (seqIndex? (k.fmod 4) ("1248" : Str).length).bind (("1248" : Str).cps[·]?) = some (digI k) := by decide +kernel
theorem hex_len : ∀ k ∈ rangeInts 10 1 22, (("0x" : Str) ++ ⟨#[digI k]⟩).length + (Txt.mul "0" (k.fdiv 4)).length ≤ 1000000 := by decide +kernel
theorem law_names_ok (D : DefAt W "_law_names" (parAt 18) (bodyAt 18) (scAt 18)) (hr : Bi W "range" (.type "range")) : CallOk W (n + 1) "_law_names" [] (.val (.list (flagN.map .str))) := by
  refine CallOk.of D K18 rfl ?_
  have F := F18
  have F' := F.fc
  rw [F.nm]
  show HS W n (scAt 18) [.unb] (bodyAt 18) _
  refine' HS.asg F (v := .list (names5.map .str)) ?e1 ?p1 ?n1
  case e1 =>
    refine HE.castV (r := .list [.str "OPTIMIZED", .str "NEWLOCALS", .str "VARARGS", .str "VARKEYWORDS", .str "NESTED"]) ?_ (by rfl)
    tm_at "x"
  case p1 => tm_at "put"
  case n1 =>
  refine' HS.asg F (v := .list (names10.map .str)) ?e2 ?p2 ?n2
  case e2 =>
    refine HE.castV (r := .list (names5.map .str ++ [.str "GENERATOR", .str "NOFREE", .str "COROUTINE", .str "ITERABLE_COROUTINE", .str "ASYNC_GENERATOR"])) ?_ (by rfl)
    tm_at "x"
    decide
  case p2 => tm_at "put"
  case n2 =>
  refine' HS.ret (v := .list (flagN.map .str)) ?hret ?hpost
  case hpost => exact rfl
  case hret =>
    refine HE.castV (r := .list (names10.map .str ++ (rangeInts 10 1 22).map (V.str ∘ hexI))) ?_ (by rw [flagN, List.map_append, List.map_map])
    refine' HE.bin ?l ?r (Op.addLV ?o)
    case l => tm_at "x"
    case o => decide
    case r =>
      refine CompR.hv ?_
      rw [show (rangeInts 10 1 22).map (V.str ∘ hexI) = ((rangeInts 10 1 22).filter fun _ => true).map (V.str ∘ hexI) by rw [List.filter_eq_self.mpr fun _ _ => rfl]]
      refine' CompR.mapA (as := rangeInts 10 1 22) (fv := V.int) (caps := [none]) 0 (fun _ => true) (V.str ∘ hexI) ?hi ?ok ?him (fun b => [b]) ?hR ?hlen ?ht ?he ?how ?hx ?hfr ?hs
      case hR => intro _; rfl
      case hi =>
        refine' HI.v ?hix (OpI.range (a := 10) (b := 32) (c := 1) (k := 22) ?hia ?hib)
        case hix => tm_at "x"
        case hia => decide +kernel
        case hib => decide +kernel
      case ok => tm_at "ok"
      case him => tm_at "him"
      case hlen => decide
      case ht => intro v _; exact HTests.nil
      case he =>
        intro k hk _
        have hk' := k_range k hk
        refine HE.fc (nms := ["k"]) (gl := []) (by tm_at "fc") fun G => ?_
        refine' HE.bin ?l ?r (Op.addS (hex_len k hk))
        case l =>
          refine' HE.bin ?l2 ?r2 (Op.addS ?o2)
          case l2 => tm_at "x"
          case o2 => exact (by decide : (2:Nat) + 1 ≤ 1000000)
          case r2 =>
            refine' HE.sub' ?l3 ?r3 ?v3 (Op.itemS ?i1 ?i2 (dig_at k hk)) ?hsl
            case hsl => exact fun _ _ => ⟨_, rfl⟩
            case l3 => tm_at "x"
            case r3 => tm_at "x"; decide
            case v3 => rfl
            case i1 => exact hk'.1.1
            case i2 => exact hk'.1.2
        case r =>
          refine' HE.bin ?l4 ?r4 (Op.mulS ?o4 ?o5 ?o6)
          case l4 => tm_at "x"
          case r4 =>
            tm_at "x"
            · decide
            · decide
          case o4 => exact hk'.2.1
          case o5 => exact hk'.2.2
          case o6 => decide
      case how => tm_at "how"
      case hx => decide +kernel
      case hfr => decide +kernel
      case hs => intro _ _; rfl
end

/-! part G19 -/
section
open PySem PySem.W PyProof.Rows PySem.Calls
set_option maxRecDepth 100000
variable {W : Wd} {n : Nat}
theorem F19 : FF (scAt 19) ["text", "names", "words", "places"] ["range"] := ⟨by decide +kernel, by decide +kernel, by decide +kernel⟩
theorem K19 : FnOk "_law_places" (parAt 19) (bodyAt 19) (scAt 19) ["text", "names"] where
  nodup := by rw [F19.nm]; decide +kernel
  plain := by rw [F19.nm]; decide +kernel
  first := by rw [F19.nm]; rfl
  kind := by rfl
  co := by rfl
  gen := by rfl
  kinds := by rw [F19.nm]; decide +kernel
  cellk := by decide +kernel
  bind := fun pm cd doc xs h => by obtain ⟨a, b, rfl⟩ := len_2 h; rfl
noncomputable def r12 : List Int := rangeInts 0 1 12
noncomputable def nmI (k : Int) : Str := flagN.getD k.toNat ""
noncomputable def plW (t : Str) : List Str := Txt.split t ", "
noncomputable def plP (t : Str) : List Int := r12.filter fun k => (plW t).contains (nmI k)
theorem nm_at : ∀ k ∈ r12, 0 ≤ k ∧ k < 1000000 ∧ (flagN.map V.str)[k.toNat]? = some (.str (nmI k)) := by
  have : ∀ k ∈ r12, 0 ≤ k ∧ k < 1000000 ∧ k.toNat < flagN.length := by decide +kernel
  intro k hk
  obtain ⟨h1, h2, h3⟩ := this k hk
  refine ⟨h1, h2, ?_⟩
  rw [List.getElem?_map, List.getElem?_eq_getElem h3, nmI, List.getD_eq_getElem?_getD, List.getElem?_eq_getElem h3]
  rfl
theorem nm_ok : ∀ k ∈ r12, PyData.strOk (nmI k) = true := by decide +kernel
/-- range(12) -/
theorem hi12 {sc : Scope} {ρ : List Bd} {np p pos : Pos} {kk : Nat} {nms gl : List Str} (F' : FC sc nms gl) (hm : ("range" : Str) ∈ gl) (hr : Bi W "range" (.type "range")) :
    HI W n sc ρ (.Call (.Name "range" np) [.Constant (.int 12) kk p] [] pos) (r12.map .int) := by
  refine' HI.v ?hix (OpI.range (a := 0) (b := 12) (c := 1) (k := 12) ?hia ?hib)
  case hix =>
    refine' HE.ty F' hm hr (HA.cons HE.int HA.nil) OpC.range1
  case hia => decide +kernel
  case hib => decide +kernel
theorem law_places_ok {t : Str} {sp : List Int} (hl : t.length ≤ 100000) (hp : plP t = sp) (hw : sp.map nmI = plW t) (D : DefAt W "_law_places" (parAt 19) (bodyAt 19) (scAt 19)) (hr : Bi W "range" (.type "range")) :
    CallOk W (n + 1) "_law_places" [.str t, .list (flagN.map .str)] (.val (.list (sp.map .int))) := by
  refine CallOk.of D K19 rfl ?_
  have F := F19
  have F' := F.fc
  have hsub : ∀ k ∈ sp, k ∈ r12 := fun k hk => by rw [← hp] at hk; exact (List.mem_filter.mp hk).1
  rw [F.nm]
  show HS W n (scAt 19) [.imm (.str t), .imm (.list (flagN.map .str)), .unb, .unb] (bodyAt 19) _
  refine' HS.asg F (v := .list ((plW t).map .str)) ?e1 ?p1 ?n1 (by intro env e; cases env; cases e; rfl)
  case e1 =>
    refine' HE.splitM (a := t) (b := ", ") ?o ?e ?s ?t ?h1 ?h2 ?h3 ?h4 ?h5
    case o => tm_at "x"
    case e => tm_at "x"
    case s => decide
    case t => exact hl
    case h3 => rfl
    all_goals (intro _; rfl)
  case p1 => tm_at "put"
  case n1 =>
  refine' HS.asgComp F (out := sp.map .int) ?e2 ?p2 ?n2 ?o2
  case e2 =>
    rw [← hp, plP]
    refine' CompR.mapA (as := r12) (fv := V.int) (caps := [none, some 1, some 2]) 0 (fun k => (plW t).contains (nmI k)) V.int ?hi ?ok ?him (fun b => [b, .imm (.list (flagN.map .str)), .imm (.list ((plW t).map .str))]) ?hR ?hlen ?ht ?he ?how ?hx ?hfr ?hs
    case hR => intro _; rfl
    case hi => exact hi12 F' (by tm_at "mem") hr
    case ok => tm_at "ok"
    case him => tm_at "him"
    case hlen => decide
    case ht =>
      intro k hk
      obtain ⟨h1, h2, h3⟩ := nm_at k hk
      refine HTests.fc (nms := ["k", "names", "words"]) (gl := []) (by tm_at "fc") fun G => HTests.one ?_
      refine' HB.cmp ?l3 ?r3 Op.inLS ?m3
      case m3 => with_unfolding_all rfl
      case l3 =>
        refine' HE.sub' ?l ?r ?v (Op.itemL h1 h2 h3) ?hsl
        case hsl => exact fun _ _ => ⟨_, rfl⟩
        case l => tm_at "x"
        case r => tm_at "x"
        case v => rfl
      case r3 => tm_at "x"
    case he =>
      intro k hk _
      refine HE.fc (nms := ["k", "names", "words"]) (gl := []) (by tm_at "fc") fun G => ?_
      tm_at "x"
    case how => tm_at "how"
    case hx => decide +kernel
    case hfr => decide +kernel
    case hs => intro _ _; rfl
  case p2 => tm_at "put"
  case o2 => rfl
  case n2 =>
  refine' HS.ret (v := .list (sp.map .int)) ?hret ?hpost
  case hpost => exact rfl
  case hret =>
    refine' HE.iteV (c := true) (v := .list (sp.map .int)) (w := .none) ?t2 ?a2 ?b2 rfl
    case b2 => intro h; cases h
    case a2 => intro _; tm_at "x"
    case t2 =>
      have ok : ∀ x ∈ sp.map nmI, PyData.strOk x = true := fun x hx => by
        obtain ⟨k, hk, rfl⟩ := List.mem_map.mp hx
        exact nm_ok k (hsub k hk)
      refine HB.cast (r := decide (sp.map nmI = plW t)) ?_ (by simp [hw])
      refine' HB.cmp ?l3 ?r3 (Op.eqLS ok (hw ▸ ok)) ?m3
      case m3 => with_unfolding_all rfl
      case r3 => tm_at "x"
      case l3 =>
        refine CompR.hv ?_
        rw [List.map_map, show sp.map (V.str ∘ nmI) = (sp.filter fun _ => true).map (V.str ∘ nmI) by rw [List.filter_eq_self.mpr fun _ _ => rfl]]
        refine' CompR.mapA (as := sp) (fv := V.int) (caps := [none, some 1]) 0 (fun _ => true) (V.str ∘ nmI) ?hi ?ok ?him (fun b => [b, .imm (.list (flagN.map .str))]) ?hR ?hlen ?ht ?he ?how ?hx ?hfr ?hs
        case hR => intro _; rfl
        case hi => exact HI.v (by tm_at "x") OpI.list
        case ok => tm_at "ok"
        case him => tm_at "him"
        case hlen =>
          rw [← hp]
          exact Nat.le_trans (List.length_filter_le ..) (by decide)
        case ht => intro v _; exact HTests.nil
        case he =>
          intro k hk _
          obtain ⟨h1, h2, h3⟩ := nm_at k (hsub k hk)
          refine HE.fc (nms := ["k", "names"]) (gl := []) (by tm_at "fc") fun G => ?_
          refine' HE.sub' ?l ?r ?v (Op.itemL h1 h2 h3) ?hsl
          case hsl => exact fun _ _ => ⟨_, rfl⟩
          case l => tm_at "x"
          case r => tm_at "x"
          case v => rfl
        case how => tm_at "how"
        case hx => decide +kernel
        case hfr => decide +kernel
        case hs => intro _ _; rfl
end

/-! part G20 -/
section
open PySem PySem.W PyProof.Rows PySem.Calls
set_option maxRecDepth 100000
variable {W : Wd} {n : Nat}
theorem F20 : FF (scAt 20) ["state", "skip"] ["range"] := ⟨by decide +kernel, by decide +kernel, by decide +kernel⟩
theorem K20 : FnOk "_law_spell" (parAt 20) (bodyAt 20) (scAt 20) ["state", "skip"] where
  nodup := by rw [F20.nm]; decide +kernel
  plain := by rw [F20.nm]; decide +kernel
  first := by rw [F20.nm]; rfl
  kind := by rfl
  co := by rfl
  gen := by rfl
  kinds := by rw [F20.nm]; decide +kernel
  cellk := by decide +kernel
  bind := fun pm cd doc xs h => by obtain ⟨a, b, rfl⟩ := len_2 h; rfl
noncomputable def bitI (m k : Int) : Int := Builtin.bitAnd (m.fdiv (2 ^ k.toNat)) 1
noncomputable def chI (st sk k : Int) : Int := (if bitI st k != 0 then 65 else 97) + (k * sk).fmod 26
noncomputable def spellI (st sk : Int) : Str := Txt.join "" (r12.map fun k => ⟨#[(chI st sk k).toNat]⟩)
theorem join12 (f : Int → Nat) : JoinOk "" (r12.map fun k => ⟨#[f k]⟩) = true := by
  show JoinOk "" [⟨#[f 0]⟩, ⟨#[f 1]⟩, ⟨#[f 2]⟩, ⟨#[f 3]⟩, ⟨#[f 4]⟩, ⟨#[f 5]⟩, ⟨#[f 6]⟩, ⟨#[f 7]⟩, ⟨#[f 8]⟩, ⟨#[f 9]⟩, ⟨#[f 10]⟩, ⟨#[f 11]⟩] = true
  have e : (Str.ofString "").cps.size = 0 := rfl
  simp [JoinOk, Str.length, Builtin.Str.tooLong, sizeLine_eq, e]
theorem ch_range (st sk k : Int) : 0 ≤ chI st sk k ∧ chI st sk k ≤ 1114111 := by
  have h1 : (k * sk).fmod 26 = (k * sk) % 26 := Int.fmod_eq_emod_of_nonneg _ (by decide)
  unfold chI
  rw [h1]
  split <;> omega
theorem r12_lt : ∀ k ∈ r12, 0 ≤ k ∧ k < 12 := by decide +kernel
theorem law_spell_ok {st sk : Int} (hsk : Builtin.Int.intBits sk ≤ 100) (D : DefAt W "_law_spell" (parAt 20) (bodyAt 20) (scAt 20)) (hr : Bi W "range" (.type "range")) (hc : Bi W "chr" (.builtin "chr")) :
    CallOk W (n + 1) "_law_spell" [.int st, .int sk] (.val (.str (spellI st sk))) := by
  refine CallOk.of D K20 rfl ?_
  have F := F20
  have F' := F.fc
  rw [F.nm]
  show HS W n (scAt 20) [.imm (.int st), .imm (.int sk)] (bodyAt 20) _
  refine' HS.ret (v := .str (spellI st sk)) ?hret ?hpost
  case hpost => exact rfl
  case hret =>
    refine' HE.joinM ?o ?e (join12 _) ?h1 ?h2 ?h3 ?h4 ?h5
    case h1 | h2 | h4 | h5 => intro _; rfl
    case h3 => rfl
    case o => tm_at "x"
    case e =>
      refine CompR.hv ?_
      rw [List.map_map, show r12.map (V.str ∘ fun k => (⟨#[(chI st sk k).toNat]⟩ : Str)) = (r12.filter fun _ => true).map (V.str ∘ fun k => ⟨#[(chI st sk k).toNat]⟩) by rw [List.filter_eq_self.mpr fun _ _ => rfl]]
      refine' CompR.mapA (as := r12) (fv := V.int) (caps := [none, some 1, some 0]) 0 (fun _ => true) (V.str ∘ fun k => ⟨#[(chI st sk k).toNat]⟩) ?hi ?ok ?him (fun b => [b, .imm (.int sk), .imm (.int st)]) ?hR ?hlen ?ht ?he ?how ?hx ?hfr ?hs
      case hR => intro _; rfl
      case hi => exact hi12 F' (by tm_at "mem") hr
      case ok => tm_at "ok"
      case him => tm_at "him"
      case hlen => decide
      case ht => intro v _; exact HTests.nil
      case he =>
        intro k hk _
        have hk' := r12_lt k hk
        have hkb : Builtin.Int.intBits k ≤ 8 := by revert k; decide +kernel
        refine HE.fc (nms := ["k", "skip", "state"]) (gl := ["chr"]) (by tm_at "fc") fun G => ?_
        refine' HE.bi G ?m hc (HA.cons ?a HA.nil) (OpC.chr (a := chI st sk k) (ch_range st sk k).1 (ch_range st sk k).2) ?he ?hpl
        case he => intro _; rfl
        case hpl => intro _; rfl
        case m => tm_at "mem"
        case a =>
          unfold chI
          refine' HE.bin ?l ?r Op.add
          case l =>
            refine' HE.iteV (c := bitI st k != 0) (v := .int 65) (w := .int 97) ?t4 ?a4 ?b4 ?u4
            case t4 =>
              unfold bitI
              tm_at "b"
              exact hk'.1
            case a4 => intro _; tm_at "x"
            case b4 => intro _; tm_at "x"
            case u4 => split <;> rfl
          case r =>
            tm_at "x"
            · decide
            · tm_at "sz"
      case how => tm_at "how"
      case hx => decide +kernel
      case hfr => decide +kernel
      case hs => intro _ _; rfl
end

/-! part M29 -/
section
open PySem PySem.W PyProof.Rows PySem.Calls
variable {W : Wd} {n : Nat} {sc : Scope} {ρ : List Bd} {nms gl : List Str} {Post : Out → List Bd → Prop}
/-! dicts of ints -/
noncomputable def dgetZ (kvs : List (Int × Int)) (k : Int) : Option Int := (kvs.find? fun p => p.1 = k).map (·.2)
noncomputable def dsetZ (kvs : List (Int × Int)) (k : Int) (v : Int) : List (Int × Int) :=
  if kvs.any (fun kv => decide (kv.1 = k)) then kvs.map (fun kv => if kv.1 = k then (kv.1, v) else kv) else kvs ++ [(k, v)]
theorem dset_ints {kvs : List (Int × Int)} {k v : Int} : dset (intsD kvs) k (.int v) = intsD (dsetZ kvs k v) := by
  unfold dset dsetZ intsD
  rw [List.any_map]
  have : ((fun kv : Int × V => decide (kv.1 = k)) ∘ fun p : Int × Int => (p.1, V.int p.2)) = fun kv => decide (kv.1 = k) := rfl
  rw [this]
  split
  · rw [List.map_map, List.map_map]
    refine List.map_congr_left fun p _ => ?_
    simp only [Function.comp]
    split <;> rfl
  · rw [List.map_append]; rfl
theorem dget_ints {kvs : List (Int × Int)} {k : Int} : dget (intsD kvs) k = (dgetZ kvs k).map .int := by
  unfold dget dgetZ intsD
  rw [List.find?_map]
  have : ((fun p : Int × V => decide (p.1 = k)) ∘ fun p : Int × Int => (p.1, V.int p.2)) = fun p => decide (p.1 = k) := rfl
  rw [this]
  cases kvs.find? fun p => decide (p.1 = k) <;> rfl
theorem intsD_keys {kvs : List (Int × Int)} : (intsD kvs).map (·.1) = kvs.map (·.1) := by
  unfold intsD; rw [List.map_map]; rfl
theorem intsD_len {kvs : List (Int × Int)} : (intsD kvs).length = kvs.length := by simp [intsD]
/-! sorting -/
noncomputable def insI (k : Int) : List Int → List Int
  | [] => [k]
  | a :: r => if k ≤ a then k :: a :: r else a :: insI k r
noncomputable def sortI : List Int → List Int
  | [] => []
  | a :: r => insI a (sortI r)
theorem insI_perm (k : Int) : ∀ l : List Int, (insI k l).Perm (k :: l)
  | [] => .refl _
  | a :: r => by
    unfold insI
    split
    · exact .refl _
    · exact ((insI_perm k r).cons a).trans (.swap k a r)
theorem sortI_perm : ∀ l : List Int, (sortI l).Perm l
  | [] => .refl _
  | a :: r => (insI_perm a (sortI r)).trans ((sortI_perm r).cons a)
theorem insI_ord (k : Int) : ∀ l : List Int, l.Pairwise (· ≤ ·) → (insI k l).Pairwise (· ≤ ·)
  | [], _ => by simp [insI]
  | a :: r, h => by
    unfold insI
    have h' := List.pairwise_cons.mp h
    split
    · rename_i hk
      refine List.pairwise_cons.mpr ⟨fun b hb => ?_, h⟩
      rcases List.mem_cons.mp hb with rfl | hb
      · exact hk
      · exact Int.le_trans hk (h'.1 b hb)
    · rename_i hk
      refine List.pairwise_cons.mpr ⟨fun b hb => ?_, insI_ord k r h'.2⟩
      rcases List.mem_cons.mp ((insI_perm k r).mem_iff.mp hb) with rfl | hb
      · omega
      · exact h'.1 b hb
theorem sortI_ord : ∀ l : List Int, (sortI l).Pairwise (· ≤ ·)
  | [] => .nil
  | a :: r => insI_ord a _ (sortI_ord r)
noncomputable def keysZ (kvs : List (Int × Int)) : List Int := sortI (kvs.map (·.1))
theorem OpC.sortedZ {kvs : List (Int × Int)} (hsz : kvs.length < 64) : Op W n (fun as => call (.builtin "sorted") as) [.dict (intsD kvs)] (.freshL ((keysZ kvs).map .int)) :=
  OpC.sortedD (by rw [intsD_keys]; exact sortI_perm _) (sortI_ord _) (by rw [intsD_len]; exact hsz)
theorem keysZ_mem {kvs : List (Int × Int)} {k : Int} (h : k ∈ keysZ kvs) : ∃ v, dgetZ kvs k = some v := by
  have h1 := (sortI_perm _).mem_iff.mp h
  obtain ⟨p, hp, rfl⟩ := List.mem_map.mp h1
  unfold dgetZ
  cases q : kvs.find? fun x => decide (x.1 = p.1) with
  | none =>
    have := List.find?_eq_none.mp q p hp
    simp at this
  | some x => exact ⟨x.2, rfl⟩
theorem keysZ_len {kvs : List (Int × Int)} : (keysZ kvs).length = kvs.length := by
  have := (sortI_perm (kvs.map (·.1))).length_eq
  simpa [keysZ] using this
theorem keysZ_nodup {kvs : List (Int × Int)} (h : (kvs.map (·.1)).Nodup) : (keysZ kvs).Nodup := (sortI_perm _).nodup_iff.mpr h
theorem dsetZ_keys {kvs : List (Int × Int)} {k v : Int} (h : (kvs.map (·.1)).Nodup) : ((dsetZ kvs k v).map (·.1)).Nodup := by
  unfold dsetZ
  split
  · rw [List.map_map]
    have : ((fun p : Int × Int => p.1) ∘ fun kv : Int × Int => if kv.1 = k then (kv.1, v) else kv) = fun p => p.1 := funext fun p => by simp only [Function.comp]; split <;> rfl
    rw [this]; exact h
  · rename_i hn
    rw [List.map_append, List.nodup_append]
    refine ⟨h, by simp, fun a ha b hb => ?_⟩
    simp only [List.map_cons, List.map_nil, List.mem_singleton] at hb
    subst hb
    rintro rfl
    obtain ⟨p, hp, rfl⟩ := List.mem_map.mp ha
    exact hn (List.any_eq_true.mpr ⟨p, hp, by simp⟩)
theorem dsetZ_len {kvs : List (Int × Int)} {k v : Int} : (dsetZ kvs k v).length ≤ kvs.length + 1 := by
  unfold dsetZ; split <;> simp
/-- the ways that are left, by their states -/
noncomputable def tidyZ (kvs : List (Int × Int)) : List (Int × Int) := ((keysZ kvs).filter fun k => (dgetZ kvs k).getD 0 != 0).map fun k => (k, (dgetZ kvs k).getD 0)
end

/-! part N7 -/
section
open PySem PySem.W PyProof.Rows PySem.Calls
theorem rangeV (k : Nat) : (rangeInts 0 1 k).map V.int = (List.range k).map fun (i : Nat) => V.int i := by
  unfold rangeInts
  rw [List.map_map]
  refine List.map_congr_left fun i _ => ?_
  show V.int (0 + (i : Int) * 1) = _
  rw [Int.mul_one, Int.zero_add]
theorem small12 : ∀ k : Nat, k ≤ 40 → Builtin.Range.small 0 (k : Int) 1 = true ∧ Builtin.Range.rangeSize 0 (k : Int) 1 = (k : Int) := by decide +kernel
end

/-! part G22 -/
section
open PySem PySem.W PyProof.Rows PySem.Calls
set_option maxRecDepth 100000
variable {W : Wd} {n : Nat}
theorem F22 : FF (scAt 22) ["places", "steps", "found", "first", "second", "row", "turned", "state"] ["range", "list", "len", "set", "sum", "sorted"] := ⟨by decide +kernel, by decide +kernel, by decide +kernel⟩
theorem K22 : FnOk "_law_straight" (parAt 22) (bodyAt 22) (scAt 22) ["places", "steps"] where
  nodup := by rw [F22.nm]; decide +kernel
  plain := by rw [F22.nm]; decide +kernel
  first := by rw [F22.nm]; rfl
  kind := by rfl
  co := by rfl
  gen := by rfl
  kinds := by rw [F22.nm]; decide +kernel
  cellk := by decide +kernel
  bind := fun pm cd doc xs h => by obtain ⟨a, b, rfl⟩ := len_2 h; rfl
noncomputable def addAt (l : List Int) (i : Nat) (d : Int) : List Int := l.set i (l.getD i 0 + d)
noncomputable def rowZ (ps : List Int) (s0 s1 : Int) (f g : Nat) : List Int := addAt (addAt ps f s0) g s1
theorem addAt_len {l : List Int} {i : Nat} {d : Int} : (addAt l i d).length = l.length := by simp [addAt]
theorem rowZ_len {ps : List Int} {s0 s1 : Int} {f g : Nat} : (rowZ ps s0 s1 f g).length = ps.length := by simp [rowZ, addAt_len]
theorem addAt_mem {l : List Int} {i : Nat} {d b : Int} (hd : 0 ≤ d) (hl : ∀ x ∈ l, 0 ≤ x ∧ x ≤ b) (hb : 0 ≤ b) : ∀ x ∈ addAt l i d, 0 ≤ x ∧ x ≤ b + d := by
  intro x hx
  rcases List.mem_or_eq_of_mem_set hx with h | rfl
  · have := hl x h; omega
  · rw [List.getD_eq_getElem?_getD]
    cases q : l[i]? with
    | none => simp; omega
    | some y => have := hl y (List.mem_of_getElem? q); simp; omega
theorem at_getD {l : List Int} {i : Nat} (h : i < l.length) : (l.map V.int)[i]? = some (.int (l.getD i 0)) := by
  rw [List.getElem?_map, List.getD_eq_getElem?_getD, List.getElem?_eq_getElem h]; rfl
noncomputable def outPairs (row : List Int) : List V := ((List.range 3).filter fun _ => true).flatMap fun i => ((List.range i).filter fun j => decide (row.getD j 0 > row.getD i 0)).map fun _ => V.int 1
noncomputable def turnedZ (row : List Int) : Int := (outPairs row).length
noncomputable def apartZ (row : List Int) : Bool := ((firstMet (fun i => row.getD i 0) row.length).length : Int) == 3
noncomputable def stateZ (row : List Int) : Int := (row.map fun p => 2 ^ p.toNat).sum
noncomputable def wayZ (kv : List (Int × Int)) (row : List Int) : List (Int × Int) :=
  if apartZ row then dsetZ kv (stateZ row) ((dgetZ kv (stateZ row)).getD 0 + (-1) ^ (turnedZ row).toNat) else kv
theorem wayZ_len {kv : List (Int × Int)} {row : List Int} : (wayZ kv row).length ≤ kv.length + 1 := by
  unfold wayZ; split
  · exact dsetZ_len
  · omega
theorem wayZ_keys {kv : List (Int × Int)} {row : List Int} (h : (kv.map (·.1)).Nodup) : ((wayZ kv row).map (·.1)).Nodup := by
  unfold wayZ; split
  · exact dsetZ_keys h
  · exact h
noncomputable def waysZ (ps : List Int) (s0 s1 : Int) (f : Nat) : Nat → List (Int × Int) → List (Int × Int)
  | 0, kv => kv
  | g + 1, kv => wayZ (waysZ ps s0 s1 f g kv) (rowZ ps s0 s1 f g)
noncomputable def allZ (ps : List Int) (s0 s1 : Int) : Nat → List (Int × Int)
  | 0 => []
  | f + 1 => waysZ ps s0 s1 f 3 (allZ ps s0 s1 f)
theorem waysZ_ok {ps : List Int} {s0 s1 : Int} {f : Nat} {kv : List (Int × Int)} (h : (kv.map (·.1)).Nodup) : ∀ g, (waysZ ps s0 s1 f g kv).length ≤ kv.length + g ∧ ((waysZ ps s0 s1 f g kv).map (·.1)).Nodup
  | 0 => ⟨Nat.le_refl _, h⟩
  | g + 1 => by
    obtain ⟨h1, h2⟩ := waysZ_ok (ps := ps) (s0 := s0) (s1 := s1) (f := f) h g
    have := wayZ_len (kv := waysZ ps s0 s1 f g kv) (row := rowZ ps s0 s1 f g)
    exact ⟨by show (wayZ _ _).length ≤ _; omega, wayZ_keys h2⟩
theorem allZ_ok {ps : List Int} {s0 s1 : Int} : ∀ f, (allZ ps s0 s1 f).length ≤ 3 * f ∧ ((allZ ps s0 s1 f).map (·.1)).Nodup
  | 0 => ⟨Nat.le_refl _, List.nodup_nil⟩
  | f + 1 => by
    obtain ⟨h1, h2⟩ := allZ_ok (ps := ps) (s0 := s0) (s1 := s1) f
    obtain ⟨h3, h4⟩ := waysZ_ok (ps := ps) (s0 := s0) (s1 := s1) (f := f) h2 3
    exact ⟨by show (waysZ ps s0 s1 f 3 _).length ≤ _; omega, h4⟩
theorem out_len (row : List Int) : (outPairs row).length ≤ 9 := by
  unfold outPairs
  rw [List.length_flatMap]
  have h : ∀ i : Nat, (((List.range i).filter fun j => decide (row.getD j 0 > row.getD i 0)).map fun _ => V.int 1).length ≤ i := fun i => by
    rw [List.length_map]
    exact Nat.le_trans (List.length_filter_le ..) (by rw [List.length_range]; exact Nat.le_refl _)
  show ([(_ : Nat), _, _].sum) ≤ 9
  have a := h 0
  have b := h 1
  have c := h 2
  simp only [List.sum_cons, List.sum_nil]
  omega
theorem out_small (row : List Int) : (outPairs row).length < 2 ^ 62 := Nat.lt_of_le_of_lt (out_len row) (by decide)
theorem turned_pow (row : List Int) : (Builtin.Int.intBits (-1) : Int) * turnedZ row ≤ 2 ^ 27 := by
  have := out_len row
  unfold turnedZ
  rw [show Builtin.Int.intBits (-1) = 1 from rfl]
  omega
noncomputable def forB2 : List Stmt := match forB 22 1 with | [Stmt.For _ _ b _ _] => b | _ => []
noncomputable def okB (b : Bd) : Prop := isL b = false ∧ isD b = false
theorem okB_imm (v : V) : okB (.imm v) := ⟨rfl, rfl⟩
theorem it3 {f l : Nat} (hf : f < 3) (hl : l = 3) : (0 : Int) ≤ (f : Int) ∧ (f : Int) < 1000000 ∧ f < l ∧ (f : Int) < (l : Int) := by omega
theorem sum13 {s0 s1 : Int} (h0 : 0 ≤ s0 ∧ s0 ≤ 3) (h1 : 0 ≤ s1 ∧ s1 ≤ 3) : 0 ≤ 10 + s0 ∧ ∀ z : Int, 0 ≤ z ∧ z ≤ 10 + s0 + s1 → (2 : Int) * z ≤ 2 ^ 27 := ⟨by omega, fun z h => by omega⟩
theorem lt3 {i j : Nat} (hi : i < 3) (h : j < i) : j < 3 := Nat.lt_trans h hi
theorem le40 {k : Nat} (h : k < 3) : k ≤ 40 := Nat.le_of_lt (Nat.lt_trans h (by decide))
theorem le_mil {k : Nat} (h : k ≤ 60) : k ≤ 1000000 := Nat.le_trans h (by decide)
theorem one22 {b0 b1 b2 b3 b4 b6 b7 : Bd} {xs : List V} (h0 : isL b0 = false) (h1 : isL b1 = false) (h2 : isL b2 = false) (h3 : isL b3 = false) (h4 : isL b4 = false) (h6 : isL b6 = false) (h7 : isL b7 = false) : oneL [b0, b1, b2, b3, b4, .mutL xs, b6, b7] 5 = true := by
  simp only [oneL, noL, h0, h1, h2, h3, h4, h6, h7]; rfl
theorem turn22 {ps : List Int} {s0 s1 : Int} {f g : Nat} {kv : List (Int × Int)} {c d e : Bd} {Post : Out → List Bd → Prop} (hp : ∀ x ∈ ps, 0 ≤ x ∧ x ≤ 10) (hl3 : ps.length = 3) (h0 : 0 ≤ s0 ∧ s0 ≤ 3) (h1 : 0 ≤ s1 ∧ s1 ≤ 3) (hf : f < 3) (hg : g < 3) (hkv : kv.length ≤ 60)
    (hli : Bi W "list" (.type "list")) (hr : Bi W "range" (.type "range")) (hle : Bi W "len" (.builtin "len")) (hse : Bi W "set" (.type "set")) (hsu : Bi W "sum" (.builtin "sum")) (hc : okB c) (hd : okB d) (he : okB e)
    (hP : ∀ c d e, okB c → okB d → okB e → Post .next [.imm (.list (ps.map .int)), .imm (.list ([s0, s1].map .int)), .mutD (intsD (wayZ kv (rowZ ps s0 s1 f g))), .imm (.int f), .imm (.int g), c, d, e]) :
    HS W n (scAt 22) [.imm (.list (ps.map .int)), .imm (.list ([s0, s1].map .int)), .mutD (intsD kv), .imm (.int f), .imm (.int g), c, d, e] forB2 Post := by
  have F := F22
  have F' := F.fc
  have tf : ((f : Int)).toNat = f := Int.toNat_natCast f
  have tg : ((g : Int)).toNat = g := Int.toNat_natCast g
  have hA : (addAt ps f s0).length = 3 := by rw [addAt_len, hl3]
  have hl' : (ps.map V.int).length = 3 := by rw [List.length_map, hl3]
  have hA' : ((addAt ps f s0).map V.int).length = 3 := by rw [List.length_map, hA]
  refine' HS.asgL F (v := ps.map .int) ?e1 ?p1 ?n1 (by intro env e; cases env; cases e; rfl)
  case e1 =>
    refine' HE.ty F' ?m1 hli ?a1 (OpC.listList ?z1) ?he1 ?hpl1
    case he1 => intro _; rfl
    case hpl1 => intro _; rfl
    case m1 => tm_at "mem"
    case a1 => tm_at "ha"
    case z1 => rw [hl']; exact Nat.le_of_ble_eq_true rfl
  case p1 => tm_at "put"
  case n1 =>
  refine' HS.setIdx F (k := (f : Int)) (v := .int (ps.getD f 0 + s0)) ?e2 ?i2 ?p2 ?k0 ?k1 ?z2 ?n2 ?v2 ?o2
  case e2 =>
    refine' HE.bwL (i := 5) (x := "row") (nms := ["places", "steps", "found", "first", "second", "row", "turned", "state"]) ?bp ?bh rfl ?bo rfl
    case bp => tm_at "put"
    case bo => exact one22 rfl rfl rfl rfl rfl hd.1 he.1
    case bh =>
      refine' HE.bin ?l ?r Op.add
      case l =>
        refine' HE.sub' (v := .list (ps.map .int)) (i := .int (f : Int)) ?l3 ?r3 ?v3 (Op.itemL (it3 hf hl3).1 (it3 hf hl3).2.1 (by rw [tf]; exact at_getD (it3 hf hl3).2.2.1)) ?hsl
        case hsl => exact fun _ _ => ⟨_, rfl⟩
        case l3 => tm_at "x"
        case r3 => tm_at "x"
        case v3 => rfl
      case r => tm_at "x"
  case i2 => tm_at "x"
  case p2 => tm_at "put"
  case k0 => exact (it3 hf hl').1
  case k1 => exact (it3 hf hl').2.2.2
  case z2 => rw [hl']; exact Nat.le_of_ble_eq_true rfl
  case v2 => rfl
  case o2 => exact one22 rfl rfl rfl rfl rfl hd.1 he.1
  case n2 =>
  rw [tf, show (ps.map V.int).set f (.int (ps.getD f 0 + s0)) = (addAt ps f s0).map .int by rw [addAt, List.map_set]]
  refine' HS.setIdx F (k := (g : Int)) (v := .int ((addAt ps f s0).getD g 0 + s1)) ?e3 ?i3 ?p3 ?k03 ?k13 ?z3 ?n3 ?v3 ?o3
  case e3 =>
    refine' HE.bwL (i := 5) (x := "row") (nms := ["places", "steps", "found", "first", "second", "row", "turned", "state"]) ?bpB ?bhB rfl ?boB rfl
    case bpB => tm_at "put"
    case boB => exact one22 rfl rfl rfl rfl rfl hd.1 he.1
    case bhB =>
      refine' HE.bin ?lB ?rB Op.add
      case lB =>
        refine' HE.sub' (v := .list ((addAt ps f s0).map .int)) (i := .int (g : Int)) ?lB3 ?rB3 ?vB3 (Op.itemL (it3 hg hA).1 (it3 hg hA).2.1 (by rw [tg]; exact at_getD (it3 hg hA).2.2.1)) ?hslB
        case hslB => exact fun _ _ => ⟨_, rfl⟩
        case lB3 => tm_at "x"
        case rB3 => tm_at "x"
        case vB3 => rfl
      case rB => tm_at "x"
  case i3 => tm_at "x"
  case p3 => tm_at "put"
  case k03 => exact (it3 hg hA').1
  case k13 => exact (it3 hg hA').2.2.2
  case z3 => rw [hA']; exact Nat.le_of_ble_eq_true rfl
  case v3 => rfl
  case o3 => exact one22 rfl rfl rfl rfl rfl hd.1 he.1
  case n3 =>
  rw [tg, show ((addAt ps f s0).map V.int).set g (.int ((addAt ps f s0).getD g 0 + s1)) = (rowZ ps s0 s1 f g).map .int by show _ = (((addAt ps f s0).set g ((addAt ps f s0).getD g 0 + s1)).map V.int); rw [List.map_set]]
  have hR : (rowZ ps s0 s1 f g).length = 3 := by rw [rowZ_len, hl3]
  have hRb : ∀ x ∈ rowZ ps s0 s1 f g, 0 ≤ x ∧ x ≤ 10 + s0 + s1 := addAt_mem h1.1 (addAt_mem h0.1 hp (by decide)) (sum13 h0 h1).1
  generalize rowZ ps s0 s1 f g = row at hR hRb hP ⊢
  refine' HS.fzL (nms := ["places", "steps", "found", "first", "second", "row", "turned", "state"]) "row" ?p8 ?n8 ?v8 ?o8
  case p8 => tm_at "put"
  case v8 => rfl
  case o8 => exact one22 rfl rfl rfl rfl rfl hd.1 he.1
  case n8 =>
  have hRv : (row.map V.int).length = 3 := by rw [List.length_map, hR]
  refine' HS.asg F (v := .int (turnedZ row)) ?e4 ?p4 ?n4
  case e4 =>
    refine' HE.bi F' ?m4 hle ?a4 (OpC.lenL ?z4) ?he4 ?hpl4
    case he4 => intro _; rfl
    case hpl4 => intro _; rfl
    case m4 => tm_at "mem"
    case z4 => exact out_small row
    case a4 =>
      refine' HA.cons (CompR.hv ?c1) HA.nil ?c3
      case c3 => intro _; rfl
      case c1 =>
        refine' CompR.mapAB (as := List.range 3) (bs := fun k => List.range k) (fa := fun (k : Nat) => V.int k) (fb := fun _ (i : Nat) => V.int i) (caps := [none, none, some 5]) 0 1 (fun _ => true) (fun i j => decide (row.getD j 0 > row.getD i 0)) (fun _ _ => V.int 1)
          ?hi ?ok ?him ?hne (fun a b => [a, b, .imm (.list (row.map .int))]) ?hR ?hlen ?hlen' ?ht ?hi' ?ht' ?he ?how ?hx ?hfr ?how' ?hx' ?hfr' ?hs ?hs'
        case hi =>
          rw [← rangeV]
          refine' HI.v ?hix (OpI.range (a := 0) (b := 3) (c := 1) (k := 3) ?hia ?hib)
          case hix => tm_at "x"
          case hia => decide +kernel
          case hib => decide +kernel
        case ok => tm_at "ok"
        case him => tm_at "him"
        case hne => decide
        case hR => intro _ _; rfl
        case hlen => decide
        case hlen' => intro k hk; have := List.mem_range.mp hk; rw [List.length_range]; exact Nat.le_of_lt (Nat.lt_trans this (by decide))
        case ht => intro _ _ _; exact HTests.nil
        case ht' =>
          intro i hi j hj
          have hi3 := List.mem_range.mp hi
          have hji := List.mem_range.mp hj
          refine HTests.fc (nms := ["i", "j", "row"]) (gl := ["range"]) (by tm_at "fc") fun G => HTests.one ?_
          refine' HB.cmp ?l9 ?r9 Op.gt ?m9
          case m9 => with_unfolding_all rfl
          case l9 =>
            refine' HE.sub' (v := .list (row.map .int)) (i := .int (j : Int)) ?l10 ?r10 ?v10 (Op.itemL (it3 (lt3 hi3 hji) hR).1 (it3 (lt3 hi3 hji) hR).2.1 (by rw [Int.toNat_natCast]; exact at_getD (it3 (lt3 hi3 hji) hR).2.2.1)) ?hsl10
            case hsl10 => exact fun _ _ => ⟨_, rfl⟩
            case l10 => tm_at "x"
            case r10 => tm_at "x"
            case v10 => rfl
          case r9 =>
            refine' HE.sub' (v := .list (row.map .int)) (i := .int (i : Int)) ?l11 ?r11 ?v11 (Op.itemL (it3 hi3 hR).1 (it3 hi3 hR).2.1 (by rw [Int.toNat_natCast]; exact at_getD (it3 hi3 hR).2.2.1)) ?hsl11
            case hsl11 => exact fun _ _ => ⟨_, rfl⟩
            case l11 => tm_at "x"
            case r11 => tm_at "x"
            case v11 => rfl
        case hi' =>
          intro k hk _ b
          have hk5 := List.mem_range.mp hk
          rw [← rangeV]
          refine HI.fc (nms := ["i", "j", "row"]) (gl := ["range"]) (by tm_at "fc") fun G => ?_
          refine' HI.v ?hix2 (OpI.range (a := 0) (b := (k : Int)) (c := 1) (k := k) ?hia2 ?hib2)
          case hix2 => tm_at "x"
          case hia2 => exact (small12 k (le40 hk5)).1
          case hib2 => exact (small12 k (le40 hk5)).2
        case he =>
          intro k hk i hi _
          refine HE.fc (nms := ["i", "j", "row"]) (gl := ["range"]) (by tm_at "fc") fun G => ?_
          tm_at "x"
        case how => tm_at "how"
        case how' => tm_at "how"
        case hx => decide +kernel
        case hx' => decide +kernel
        case hfr => decide +kernel
        case hfr' => decide +kernel
        case hs => intro _ _; rfl
        case hs' => intro _ _; rfl
  case p4 => tm_at "put"
  case n4 =>
  refine' HS.last (HT.ifS (c := apartZ row) ?t5 ?a5 ?b5)
  case t5 =>
    refine' HB.cmp ?l12 ?r12 Op.eq ?m12
    case m12 => with_unfolding_all rfl
    case l12 =>
      refine' HE.lenSet F' ?mx ?my hle hse ?he12 ?hsz ?hst
      case mx => tm_at "mem"
      case my => tm_at "mem"
      case he12 => tm_at "x"
      case hsz => rw [hR]; exact Nat.le_of_ble_eq_true rfl
      case hst => intro _; rfl
    case r12 => tm_at "x"
  case b5 =>
    intro e
    have hw : wayZ kv row = kv := by unfold wayZ; rw [e]; rfl
    rw [hw] at hP
    exact HS.nil (hP _ _ _ (okB_imm _) (okB_imm _) he)
  case a5 =>
    intro e
    have hw : wayZ kv row = dsetZ kv (stateZ row) ((dgetZ kv (stateZ row)).getD 0 + (-1) ^ (turnedZ row).toNat) := by unfold wayZ; rw [e]; rfl
    rw [hw] at hP
    refine' HS.asg F (v := .int (stateZ row)) ?e6 ?p6 ?n6
    case e6 =>
      refine' HE.bi F' ?m6 hsu ?a6 OpC.sumI ?he6 ?hpl6
      case he6 => intro _; rfl
      case hpl6 => intro _; rfl
      case m6 => tm_at "mem"
      case a6 =>
        refine' HA.cons (CompR.hv (CompR.cast (out := (row.filter fun _ => true).map fun p => V.int (2 ^ p.toNat)) ?c6 ?d6)) HA.nil ?s6
        case s6 => intro _; rfl
        case d6 => rw [List.filter_eq_self.mpr fun _ _ => rfl, List.map_map]; rfl
        case c6 =>
          refine' CompR.mapA (as := row) (fv := V.int) (caps := [none]) 0 (fun _ => true) (fun p => V.int (2 ^ p.toNat)) ?hi3 ?ok3 ?him3 (fun b => [b]) ?hR3 ?hlen3 ?ht3 ?he3 ?how3 ?hx3 ?hfr3 ?hs3
          case hR3 => intro _; rfl
          case hi3 => exact HI.v (v := .list (row.map .int)) (by tm_at "x") OpI.list
          case ok3 => tm_at "ok"
          case him3 => tm_at "him"
          case hlen3 => rw [hR]; exact Nat.le_of_ble_eq_true rfl
          case ht3 => intro v _; exact HTests.nil
          case he3 =>
            intro z hz _
            have hzb := hRb z hz
            refine HE.fc (nms := ["place"]) (gl := []) (by tm_at "fc") fun G => ?_
            refine' HE.bin ?u1 ?u2 (Op.pow ?u3 ?u4)
            case u1 => tm_at "x"
            case u2 => tm_at "x"
            case u3 => exact hzb.1
            case u4 =>
              rw [show Builtin.Int.intBits 2 = 2 from rfl]
              exact (sum13 h0 h1).2 z hzb
          case how3 => tm_at "how"
          case hx3 => decide +kernel
          case hfr3 => decide +kernel
          case hs3 => intro _ _; rfl
    case p6 => tm_at "put"
    case n6 =>
    refine' HS.setKey F (k := stateZ row) (v := .int ((dgetZ kv (stateZ row)).getD 0 + (-1) ^ (turnedZ row).toNat)) ?e7 ?i7 ?p7 ?z7 ?n7 ?v7 ?o7
    case e7 =>
      refine' HE.bwD (i := 2) (x := "found") (nms := ["places", "steps", "found", "first", "second", "row", "turned", "state"]) ?bpD ?bhD rfl ?boD rfl
      case bpD => tm_at "put"
      case boD => rfl
      case bhD =>
        refine' HE.bin ?l7 ?r7 Op.add
        case l7 =>
          refine HE.castV (r := (dget (intsD kv) (stateZ row)).getD (.int 0)) ?_ (by rw [dget_ints]; cases dgetZ kv (stateZ row) <;> rfl)
          tm_at "x"
        case r7 =>
          refine' HE.bin ?w1 ?w2 (Op.pow ?w3 ?w4)
          case w1 => tm_at "x"
          case w2 => tm_at "x"
          case w3 => exact Int.natCast_nonneg _
          case w4 => exact turned_pow row
    case i7 => tm_at "x"
    case p7 => tm_at "put"
    case z7 =>
      show (intsD kv).length ≤ _
      rw [intsD_len]; exact le_mil hkv
    case v7 => rfl
    case o7 => rfl
    case n7 =>
      rw [dset_ints]
      exact HS.nil (hP _ _ _ (okB_imm _) (okB_imm _) (okB_imm _))
theorem at3 {α : Type} {k : Nat} {v : α} {g : Nat → α} (hv : ((List.range 3).map g)[k]? = some v) : k < 3 ∧ v = g k := by
  have hk : k < 3 := by
    have := (List.getElem?_eq_some_iff.mp hv).1
    simpa using this
  rw [List.getElem?_map, List.getElem?_range hk] at hv
  exact ⟨hk, (Option.some.inj hv).symm⟩
theorem law_straight_ok {ps : List Int} {s0 s1 : Int} (hp : ∀ x ∈ ps, 0 ≤ x ∧ x ≤ 10) (hl3 : ps.length = 3) (h0 : 0 ≤ s0 ∧ s0 ≤ 3) (h1 : 0 ≤ s1 ∧ s1 ≤ 3) (D : DefAt W "_law_straight" (parAt 22) (bodyAt 22) (scAt 22))
    (hli : Bi W "list" (.type "list")) (hr : Bi W "range" (.type "range")) (hle : Bi W "len" (.builtin "len")) (hse : Bi W "set" (.type "set")) (hsu : Bi W "sum" (.builtin "sum")) (hso : Bi W "sorted" (.builtin "sorted")) :
    CallOk W (n + 1) "_law_straight" [.list (ps.map .int), .list ([s0, s1].map .int)] (.val (.dict (intsD (tidyZ (allZ ps s0 s1 3))))) := by
  refine CallOk.of D K22 rfl ?_
  have F := F22
  have F' := F.fc
  rw [F.nm]
  show HS W n (scAt 22) [.imm (.list (ps.map .int)), .imm (.list ([s0, s1].map .int)), .unb, .unb, .unb, .unb, .unb, .unb] (bodyAt 22) _
  refine' HS.asgD F (v := intsD (allZ ps s0 s1 0)) ?e1 ?p1 ?n1
  case e1 => exact HE.dict0
  case p1 => tm_at "put"
  case n1 =>
  let Inv : Nat → List Bd → Prop := fun i ρ => ∃ (x y c d e : Bd), ρ = [.imm (.list (ps.map .int)), .imm (.list ([s0, s1].map .int)), .mutD (intsD (allZ ps s0 s1 i)), x, y, c, d, e] ∧ okB x ∧ okB y ∧ okB c ∧ okB d ∧ okB e
  refine' HS.thn (HT.for (vs := (List.range 3).map fun (i : Nat) => V.int i) Inv 3 ?hi ?h0 ?hturn ?hend ?hx ?hfr ?hs)
  case hi =>
    rw [← rangeV]
    refine' HI.v ?hiv (OpI.range (a := 0) (b := 3) (c := 1) (k := 3) ?hk1 ?hk2)
    case hiv => tm_at "x"
    case hk1 => decide +kernel
    case hk2 => decide +kernel
  case h0 => exact ⟨.unb, .unb, .unb, .unb, .unb, rfl, ⟨rfl, rfl⟩, ⟨rfl, rfl⟩, ⟨rfl, rfl⟩, ⟨rfl, rfl⟩, ⟨rfl, rfl⟩⟩
  case hx => rw [F.nm]; rfl
  case hfr => decide +kernel
  case hs => intro _ _; rfl
  case hturn =>
    rintro f v ρ' hv ⟨x, y, c, d, e, rfl, hx, hy, hc, hd, he⟩
    obtain ⟨hf, rfl⟩ := at3 hv
    have hA := allZ_ok (ps := ps) (s0 := s0) (s1 := s1) f
    show HS W n (scAt 22) [.imm (.list (ps.map .int)), .imm (.list ([s0, s1].map .int)), .mutD (intsD (allZ ps s0 s1 f)), .imm (.int f), y, c, d, e] (forB 22 1) _
    let Inv2 : Nat → List Bd → Prop := fun g ρ => ∃ (y c d e : Bd), ρ = [.imm (.list (ps.map .int)), .imm (.list ([s0, s1].map .int)), .mutD (intsD (waysZ ps s0 s1 f g (allZ ps s0 s1 f))), .imm (.int f), y, c, d, e] ∧ okB y ∧ okB c ∧ okB d ∧ okB e
    refine' HS.last (HT.for (vs := (List.range 3).map fun (i : Nat) => V.int i) Inv2 4 ?hi2 ?h02 ?hturn2 ?hend2 ?hx2 ?hfr2 ?hs2)
    case hi2 =>
      rw [← rangeV]
      refine' HI.v ?hiv2 (OpI.range (a := 0) (b := 3) (c := 1) (k := 3) ?hk12 ?hk22)
      case hiv2 => tm_at "x"
      case hk12 => decide +kernel
      case hk22 => decide +kernel
    case h02 => exact ⟨y, c, d, e, rfl, hy, hc, hd, he⟩
    case hx2 => rw [F.nm]; rfl
    case hfr2 => decide +kernel
    case hs2 => intro _ _; rfl
    case hturn2 =>
      rintro g v ρ' hv ⟨y, c, d, e, rfl, hy, hc, hd, he⟩
      obtain ⟨hg, rfl⟩ := at3 hv
      have hB := waysZ_ok (ps := ps) (s0 := s0) (s1 := s1) (f := f) hA.2 g
      show HS W n (scAt 22) [.imm (.list (ps.map .int)), .imm (.list ([s0, s1].map .int)), .mutD (intsD (waysZ ps s0 s1 f g (allZ ps s0 s1 f))), .imm (.int f), .imm (.int g), c, d, e] forB2 _
      exact turn22 hp hl3 h0 h1 hf hg (by omega) hli hr hle hse hsu hc hd he fun c d e hc hd he => ⟨_, c, d, e, rfl, okB_imm _, hc, hd, he⟩
    case hend2 =>
      rintro ρ' ⟨y, c, d, e, rfl, hy, hc, hd, he⟩
      exact HS.nil ⟨_, _, _, _, _, rfl, okB_imm _, hy, hc, hd, he⟩
  case hend =>
    rintro ρ' ⟨x, y, c, d, e, rfl, hx, hy, hc, hd, he⟩
    have hA := allZ_ok (ps := ps) (s0 := s0) (s1 := s1) 3
    refine HS.next ?_
    show HS W n (scAt 22) [.imm (.list (ps.map .int)), .imm (.list ([s0, s1].map .int)), .mutD (intsD (allZ ps s0 s1 3)), x, y, c, d, e] ((bodyAt 22).drop 2) _
    generalize allZ ps s0 s1 3 = kv at hA ⊢
    refine' HS.fzD (nms := ["places", "steps", "found", "first", "second", "row", "turned", "state"]) "found" ?p8 ?n8 ?v8 ?o8
    case p8 => tm_at "put"
    case v8 => rfl
    case o8 => simp only [oneD, noD, hx.2, hy.2, hc.2, hd.2, he.2]; rfl
    case n8 =>
    refine' HS.ret ?hret ?hpost
    case hpost => exact rfl
    case hret =>
      refine' HE.freezeD (CompD.he ?hcd)
      case hcd =>
      unfold tidyZ
      rw [show intsD (((keysZ kv).filter fun k => (dgetZ kv k).getD 0 != 0).map fun k => (k, (dgetZ kv k).getD 0)) = ((keysZ kv).filter fun k => (dgetZ kv k).getD 0 != 0).map fun k => (k, V.int ((dgetZ kv k).getD 0)) by unfold intsD; rw [List.map_map]; rfl]
      refine' CompD.mapA (as := keysZ kv) (fv := V.int) (caps := [none, some 2]) 0 (fun k => (dgetZ kv k).getD 0 != 0) (fun k => k) (fun k => .int ((dgetZ kv k).getD 0)) ?hi3 ?ok3 ?him3 (fun b => [b, .imm (.dict (intsD kv))]) ?hR3 ?hlen3 ?hnd3 ?ht3 ?hk3 ?he3 ?how3 ?hx3 ?hfr3 ?hs3
      case hR3 => intro _; rfl
      case hi3 =>
        refine' HI.v (v := .list ((keysZ kv).map .int)) ?hs4 OpI.list
        case hs4 =>
        refine' HE.toV (HE.bi F' ?m4 hso ?a4 (OpC.sortedZ ?z4) ?he4 ?hpl4)
        case he4 => intro _; rfl
        case hpl4 => intro _; rfl
        case m4 => tm_at "mem"
        case a4 => tm_at "ha"
        case z4 => omega
      case ok3 => tm_at "ok"
      case him3 => tm_at "him"
      case hlen3 => rw [keysZ_len]; omega
      case hnd3 => rw [List.map_id']; exact keysZ_nodup hA.2
      case ht3 =>
        intro k hk
        obtain ⟨v, hv⟩ := keysZ_mem hk
        refine HTests.fc (nms := ["state", "found"]) (gl := []) (by tm_at "fc") fun G => HTests.one ?_
        refine' HB.cmp ?l9 ?r9 Op.ne ?m9
        case m9 => with_unfolding_all rfl
        case l9 =>
          refine' HE.sub' (v := .dict (intsD kv)) (i := .int k) ?l10 ?r10 ?v10 (Op.dgetI (by rw [dget_ints, hv]; rfl)) ?hsl10
          case hsl10 => exact fun _ _ => ⟨_, rfl⟩
          case l10 => tm_at "x"
          case r10 => tm_at "x"
          case v10 => rfl
        case r9 => tm_at "x"
      case hk3 =>
        intro k hk _
        refine HE.fc (nms := ["state", "found"]) (gl := []) (by tm_at "fc") fun G => ?_
        tm_at "x"
      case he3 =>
        intro k hk _
        obtain ⟨v, hv⟩ := keysZ_mem hk
        refine HE.fc (nms := ["state", "found"]) (gl := []) (by tm_at "fc") fun G => ?_
        refine' HE.sub' (v := .dict (intsD kv)) (i := .int k) ?l11 ?r11 ?v11 (Op.dgetI (by rw [dget_ints, hv]; rfl)) ?hsl11
        case hsl11 => exact fun _ _ => ⟨_, rfl⟩
        case l11 => tm_at "x"
        case r11 => tm_at "x"
        case v11 => rfl
      case how3 => tm_at "how"
      case hx3 => decide +kernel
      case hfr3 => decide +kernel
      case hs3 => intro _ _; rfl
end

/-! part G21 -/
section
open PySem PySem.W PyProof.Rows PySem.Calls
set_option maxRecDepth 100000
variable {W : Wd} {n : Nat}
theorem F21 : FF (scAt 21) ["table", "step", "names", "bound", "skip", "onward", "state", "places", "word", "place", "moved", "pair", "told", "due", "passed"] ["sorted", "_law_places", "pretty_flags", "_law_spell", "_levenshtein_distance", "sum", "range", "isinstance", "int", "len"] := ⟨by decide +kernel, by decide +kernel, by decide +kernel⟩
theorem K21 : FnOk "_law_onward" (parAt 21) (bodyAt 21) (scAt 21) ["table", "step", "names", "bound", "skip"] where
  nodup := by rw [F21.nm]; decide +kernel
  plain := by rw [F21.nm]; decide +kernel
  first := by rw [F21.nm]; rfl
  kind := by rfl
  co := by rfl
  gen := by rfl
  kinds := by rw [F21.nm]; decide +kernel
  cellk := by decide +kernel
  bind := fun pm cd doc xs h => by obtain ⟨a, b, c, d, e, rfl⟩ := len_5 h; rfl
noncomputable def movedZ (s p step : Int) : Int := s - 2 ^ p.toNat + 2 ^ (p + step).toNat
noncomputable def wordL (s sk : Int) : List Nat := r12.map fun k => (chI s sk k).toNat
theorem wordL_len (s sk : Int) : (wordL s sk).length = 12 := by rw [wordL, List.length_map]; rfl
theorem spell_mk (s sk : Int) : spellI s sk = mk (wordL s sk) := by
  have h : ∀ l : List Nat, Txt.join "" (l.map fun k => (⟨#[k]⟩ : Str)) = mk l := by
    intro l
    show Builtin.Str.glued "" _ = _
    rw [StrLaws.glued_eq_join]
    induction l with
    | nil => rfl
    | cons a r ih =>
      cases r with
      | nil => rfl
      | cons b r =>
        show (⟨#[a]⟩ : Str) ++ "" ++ Str.join "" (List.map (fun k => (⟨#[k]⟩ : Str)) (b :: r)) = _
        rw [ih]
        show (⟨(#[a] ++ #[]) ++ (b :: r).toArray⟩ : Str) = ⟨(a :: b :: r).toArray⟩
        simp
  show Txt.join "" (r12.map ((fun k => (⟨#[k]⟩ : Str)) ∘ fun k => (chI s sk k).toNat)) = _
  rw [← List.map_map, h]; rfl
noncomputable def toldZ (s m p bound sk : Int) : Int := levN (if p.fmod 2 = 0 then wordL s sk else wordL m sk) (if p.fmod 2 = 0 then wordL m sk else wordL s sk) bound
noncomputable def dueW (s m : Int) : Int := (r12.map fun k => bitI (Builtin.bitXor s m) k).sum
noncomputable def spots (x : Int) : List Int := r12.filter fun k => bitI x k != 0
noncomputable def flagT (x : Int) : Str := Txt.join ", " (pfNames x)
structure PlOk (x : Int) : Prop where
  ok : pfOk x = true
  hj : JoinOk ", " (pfNames x) = true
  len : (flagT x).length ≤ 100000
  pl : plP (flagT x) = spots x
  nm : (spots x).map nmI = plW (flagT x)
noncomputable def goZ (s p step : Int) : Bool := !((spots s).any (· == p + step))
noncomputable def moveZ (kv : List (Int × Int)) (s step : Int) (acc : List (Int × Int)) (p : Int) : List (Int × Int) :=
  if goZ s p step then dsetZ acc (movedZ s p step) ((dgetZ acc (movedZ s p step)).getD 0 - (dgetZ kv s).getD 0 * (-1) ^ (spots (Builtin.bitAnd s (movedZ s p step - s))).length) else acc
noncomputable def onwS (kv : List (Int × Int)) (step : Int) (acc : List (Int × Int)) (s : Int) : List (Int × Int) := (spots s).foldl (moveZ kv s step) acc
noncomputable def onwZ (kv : List (Int × Int)) (step : Int) : List (Int × Int) := (keysZ kv).foldl (onwS kv step) []
structure TurnOk (s p step bound sk : Int) : Prop where
  p0 : 0 ≤ p
  p1 : p ≤ 20
  go : goZ s p step = true → toldZ s (movedZ s p step) p bound sk = 2 ∧ PlOk (Builtin.bitAnd s (movedZ s p step - s))
  no : goZ s p step = false → toldZ s (movedZ s p step) p bound sk ≠ 2 ∧ (toldZ s (movedZ s p step) p bound sk = dueW s (movedZ s p step) ∨ bound < toldZ s (movedZ s p step) p bound sk ∧ toldZ s (movedZ s p step) p bound sk < dueW s (movedZ s p step))
theorem moveZ_len {kv acc : List (Int × Int)} {s step p : Int} : (moveZ kv s step acc p).length ≤ acc.length + 1 := by
  unfold moveZ; split
  · exact dsetZ_len
  · omega
theorem moveZ_keys {kv acc : List (Int × Int)} {s step p : Int} (h : (acc.map (·.1)).Nodup) : ((moveZ kv s step acc p).map (·.1)).Nodup := by
  unfold moveZ; split
  · exact dsetZ_keys h
  · exact h
theorem negpow_bits : ∀ k : Nat, Builtin.Int.intBits ((-1) ^ k) ≤ 8 := fun k => by
  have h : ((-1 : Int) ^ k) = 1 ∨ ((-1 : Int) ^ k) = -1 := by
    induction k with
    | zero => exact .inl rfl
    | succ k ih => rw [Int.pow_succ]; rcases ih with h | h <;> rw [h] <;> decide
  rcases h with h | h <;> rw [h] <;> decide
theorem pick_a {p : Int} (a b : List Nat) : [V.str (mk a), .str (mk b)][(p.fmod 2).toNat]? = some (.str (mk (if p.fmod 2 = 0 then a else b))) := by
  have h : p.fmod 2 = 0 ∨ p.fmod 2 = 1 := by rw [Int.fmod_eq_emod_of_nonneg _ (by decide)]; omega
  rcases h with h | h <;> rw [h] <;> rfl
theorem pick_b {p : Int} (a b : List Nat) : [V.str (mk a), .str (mk b)][(1 - p.fmod 2).toNat]? = some (.str (mk (if p.fmod 2 = 0 then b else a))) := by
  have h : p.fmod 2 = 0 ∨ p.fmod 2 = 1 := by rw [Int.fmod_eq_emod_of_nonneg _ (by decide)]; omega
  rcases h with h | h <;> rw [h] <;> rfl
theorem fmod2 (p : Int) : 0 ≤ p.fmod 2 ∧ p.fmod 2 < 2 := by rw [Int.fmod_eq_emod_of_nonneg _ (by decide)]; omega
theorem spots_len (x : Int) : (spots x).length ≤ 12 := Nat.le_trans (List.length_filter_le ..) (by decide)
noncomputable def stB : List Stmt := forB 21 1
noncomputable def plB : List Stmt := (forOf stB[3]?).2.1
theorem st_facts {p step : Int} (p0 : 0 ≤ p) (p1 : p ≤ 20) (hst : 0 ≤ step ∧ step ≤ 20) : (2 : Int) * p ≤ 2 ^ 27 ∧ 0 ≤ p + step ∧ (2 : Int) * (p + step) ≤ 2 ^ 27 := by omega
theorem fm2_facts (p : Int) : p.fmod 2 < 1000000 ∧ 0 ≤ 1 - p.fmod 2 ∧ 1 - p.fmod 2 < 1000000 := by have := fmod2 p; omega
theorem w12 {k : Nat} (h : k ≤ 12) : k < 2 ^ 62 ∧ (1 : Int) * (k : Int) ≤ 2 ^ 27 := ⟨Nat.lt_of_le_of_lt h (by decide), by omega⟩
theorem onw_turn {kv acc : List (Int × Int)} {s p step bound sk : Int} {a b c d e : Bd} {Post : Out → List Bd → Prop} (T : TurnOk s p step bound sk) (hst : 0 ≤ step ∧ step ≤ 20) (hacc : acc.length ≤ 1000) (hkv : ∃ v, dgetZ kv s = some v ∧ Builtin.Int.intBits v ≤ 100)
    (hpf : ∀ x, PlOk x → CallOk W n "pretty_flags" [.int x] (.val (.str (flagT x)))) (hpl : ∀ x, PlOk x → CallOk W n "_law_places" [.str (flagT x), .list (flagN.map .str)] (.val (.list ((spots x).map .int))))
    (hsp : ∀ x, CallOk W n "_law_spell" [.int x, .int sk] (.val (.str (spellI x sk)))) (hlv : ∀ xs ys mc, xs.length ≤ 40 → ys.length ≤ 40 → CallOk W n "_levenshtein_distance" [.str (mk xs), .str (mk ys), .int mc] (.val (.int (levN xs ys mc))))
    (hr : Bi W "range" (.type "range")) (hsu : Bi W "sum" (.builtin "sum")) (his : Bi W "isinstance" (.builtin "isinstance")) (hin : Bi W "int" (.type "int")) (hle : Bi W "len" (.builtin "len"))
    (ha : okB a) (hb : okB b) (hc : okB c) (hd : okB d) (he : okB e)
    (hP : ∀ a b c d e, okB a → okB b → okB c → okB d → okB e → Post .next [.imm (.dict (intsD kv)), .imm (.int step), .imm (.list (flagN.map .str)), .imm (.int bound), .imm (.int sk), .mutD (intsD (moveZ kv s step acc p)), .imm (.int s), .imm (.list ((spots s).map .int)), .imm (.str (mk (wordL s sk))), .imm (.int p), a, b, c, d, e]) :
    HS W n (scAt 21) [.imm (.dict (intsD kv)), .imm (.int step), .imm (.list (flagN.map .str)), .imm (.int bound), .imm (.int sk), .mutD (intsD acc), .imm (.int s), .imm (.list ((spots s).map .int)), .imm (.str (mk (wordL s sk))), .imm (.int p), a, b, c, d, e] plB Post := by
  have F := F21
  have F' := F.fc
  obtain ⟨v, hv, hvb⟩ := hkv
  have p0 := T.p0
  have p1 := T.p1
  have hgo := T.go
  have hno := T.no
  have hm : moveZ kv s step acc p = if goZ s p step then dsetZ acc (movedZ s p step) ((dgetZ acc (movedZ s p step)).getD 0 - v * (-1) ^ (spots (Builtin.bitAnd s (movedZ s p step - s))).length) else acc := by
    unfold moveZ; rw [hv]; rfl
  rw [hm] at hP
  refine' HS.asg F (v := .int (movedZ s p step)) ?e1 ?p1 ?n1 (by intro env e; cases env; cases e; rfl)
  case e1 =>
    refine' HE.bin (HE.bin ?l1 ?r1 Op.sub) ?r2 Op.add
    case l1 => tm_at "x"
    case r1 =>
      tm_at "x"
      · exact p0
      · exact (st_facts p0 p1 hst).1
    case r2 =>
      tm_at "x"
      · exact (st_facts p0 p1 hst).2.1
      · exact (st_facts p0 p1 hst).2.2
  case p1 => tm_at "put"
  case n1 =>
  clear hm
  generalize movedZ s p step = m at *
  refine' HS.asg F (v := .list [.str (mk (wordL s sk)), .str (mk (wordL m sk))]) ?e2 ?p2 ?n2
  case e2 =>
    refine' HE.list' (HA.cons ?w2 (HA.cons ?w3 HA.nil)) (Nat.le_of_ble_eq_true rfl)
    case w2 => tm_at "x"
    case w3 =>
      rw [← spell_mk]
      refine' HE.fn F' ?m2 ?a2 (hsp m) ?h2
      case m2 => tm_at "mem"
      case a2 => tm_at "ha"
      case h2 => intro _; rfl
  case p2 => tm_at "put"
  case n2 =>
  refine' HS.asg F (v := .int (toldZ s m p bound sk)) ?e3 ?p3 ?n3
  case e3 =>
    refine' HE.fn F' ?m3 (HA.cons ?a31 (HA.cons ?a32 (HA.cons ?a33 HA.nil))) (hlv _ _ bound ?l31 ?l32) ?h3
    case m3 => tm_at "mem"
    case h3 => intro _; rfl
    case a31 =>
      refine' HE.sub' (v := .list [.str (mk (wordL s sk)), .str (mk (wordL m sk))]) (i := .int (p.fmod 2)) ?l33 ?r33 ?v33 (Op.itemL (fmod2 p).1 (fm2_facts p).1 (pick_a _ _)) ?hsl3
      case hsl3 => exact fun _ _ => ⟨_, rfl⟩
      case l33 => tm_at "x"
      case r33 => tm_at "x"; decide
      case v33 => rfl
    case a32 =>
      refine' HE.sub' (v := .list [.str (mk (wordL s sk)), .str (mk (wordL m sk))]) (i := .int (1 - p.fmod 2)) ?l34 ?r34 ?v34 (Op.itemL (fm2_facts p).2.1 (fm2_facts p).2.2 (pick_b _ _)) ?hsl4
      case hsl4 => exact fun _ _ => ⟨_, rfl⟩
      case l34 => tm_at "x"
      case r34 => tm_at "x"; decide
      case v34 => rfl
    case a33 => tm_at "x"
    case l31 => split <;> rw [wordL_len] <;> decide
    case l32 => split <;> rw [wordL_len] <;> decide
  case p3 => tm_at "put"
  case n3 =>
  generalize toldZ s m p bound sk = t at *
  refine' HS.asg F (v := .int (dueW s m)) ?e4 ?p4 ?n4
  case e4 =>
    refine' HE.bi F' ?m4 hsu ?a4 OpC.sumI ?he4 ?hpl4
    case he4 => intro _; rfl
    case hpl4 => intro _; rfl
    case m4 => tm_at "mem"
    case a4 =>
      refine' HA.cons (CompR.hv (CompR.cast (out := (r12.filter fun _ => true).map fun k => V.int (bitI (Builtin.bitXor s m) k)) ?c4 ?d4)) HA.nil ?s4
      case s4 => intro _; rfl
      case d4 => rw [List.filter_eq_self.mpr fun _ _ => rfl, List.map_map]; rfl
      case c4 =>
        refine' CompR.mapA (as := r12) (fv := V.int) (caps := [none, some 10, some 6]) 0 (fun _ => true) (fun k => V.int (bitI (Builtin.bitXor s m) k)) ?hi4 ?ok4 ?him4 (fun b => [b, .imm (.int m), .imm (.int s)]) ?hR4 ?hlen4 ?ht4 ?he5 ?how4 ?hx4 ?hfr4 ?hs4
        case hR4 => intro _; rfl
        case hi4 => exact hi12 F' (by tm_at "mem") hr
        case ok4 => tm_at "ok"
        case him4 => tm_at "him"
        case hlen4 => decide
        case ht4 => intro v _; exact HTests.nil
        case he5 =>
          intro k hk _
          have hk' := r12_lt k hk
          refine HE.fc (nms := ["k", "moved", "state"]) (gl := []) (by tm_at "fc") fun G => ?_
          unfold bitI
          tm_at "x"
          exact hk'.1
        case how4 => tm_at "how"
        case hx4 => decide +kernel
        case hfr4 => decide +kernel
        case hs4 => intro _ _; rfl
  case p4 => tm_at "put"
  case n4 =>
  generalize dueW s m = u at *
  refine' HS.last (HT.ifS (c := goZ s p step) ?t5 ?a5 ?b5)
  case t5 =>
    refine' HB.cast (r := ((t == 2) && (true && true))) ?q5 ?q6
    case q6 =>
      cases q : goZ s p step with
      | true => rw [(hgo q).1]; rfl
      | false => have := (hno q).1; simp [this]
    case q5 =>
      refine' HB.and ?q7 fun _ => HB.and ?q8 fun _ => HB.andNil
      case q7 => tm_at "b"
      case q8 =>
        refine' HB.val ?q9 Op.tB ?q10
        case q10 => intro _ _; rfl
        case q9 =>
          refine' HE.bi F' ?m9 his ?a9 OpC.isInt ?he9 ?hpl9
          case he9 => intro _; rfl
          case hpl9 => intro _; rfl
          case m9 => tm_at "mem"
          case a9 => tm_at "ha"
  case b5 =>
    intro q
    rw [if_neg (by rw [q]; decide)] at hP
    have hn := (hno q).2
    refine' HS.last (HT.ifS (c := false) ?t6 (by intro h; cases h) ?b6)
    case b6 => intro _; exact HS.nil (hP _ _ _ _ _ (okB_imm _) (okB_imm _) (okB_imm _) (okB_imm _) he)
    case t6 =>
      refine' HB.cast (r := (!true || ((t != u && (!(decide (bound < t) && decide (t < u)) && true)) || false))) ?u5 ?u6
      case u6 =>
        rcases hn with h | ⟨h1, h2⟩
        · simp [h]
        · simp [h1, h2]
      case u5 =>
        refine' HB.or ?u7 fun _ => HB.or ?u8 fun _ => HB.orNil
        case u7 =>
          refine' HB.not (HB.val ?u9 Op.tB ?u10)
          case u10 => intro _ _; rfl
          case u9 =>
            refine' HE.bi F' ?m10 his ?a10 OpC.isInt ?he10 ?hpl10
            case he10 => intro _; rfl
            case hpl10 => intro _; rfl
            case m10 => tm_at "mem"
            case a10 => tm_at "ha"
        case u8 =>
          refine' HB.and ?u11 fun _ => HB.and (HB.not ?u12) fun _ => HB.andNil
          case u11 => tm_at "b"
          case u12 =>
            refine' HB.chain ?x1 ?x2 Op.lt ?x3 Op.lt ?x4
            case x4 => with_unfolding_all rfl
            case x1 => tm_at "x"
            case x2 => tm_at "x"
            case x3 => tm_at "x"
  case a5 =>
    intro q
    rw [if_pos q] at hP
    have hk := (hgo q).2
    have hk' := negpow_bits (spots (Builtin.bitAnd s (m - s))).length
    have hsl := spots_len (Builtin.bitAnd s (m - s))
    refine' HS.asg F (v := .list ((spots (Builtin.bitAnd s (m - s))).map .int)) ?e6 ?p6 ?n6
    case e6 =>
      refine' HE.fn F' ?m6 (HA.cons ?a61 (HA.cons ?a62 HA.nil)) (hpl _ hk) ?h6
      case m6 => tm_at "mem"
      case h6 => intro _; rfl
      case a62 => tm_at "x"
      case a61 =>
        refine' HE.fn F' ?m7 (HA.cons ?a71 HA.nil) (hpf _ hk) ?h7
        case m7 => tm_at "mem"
        case h7 => intro _; rfl
        case a71 => tm_at "x"
    case p6 => tm_at "put"
    case n6 =>
    clear hk
    generalize spots (Builtin.bitAnd s (m - s)) = w at *
    refine' HS.ifN (c := isNoneV (.list (w.map .int))) ?t7 (by intro h; cases h) ?nI
    case t7 =>
      refine' HB.cmpN ?t8
      case t8 => tm_at "x"
    case nI =>
    intro _
    refine' HS.setKey F (k := m) (v := .int ((dgetZ acc m).getD 0 - v * (-1) ^ w.length)) ?e7 ?i7 ?p7 ?z7 ?n7 ?v7 ?o7
    case e7 =>
      refine' HE.bwD (i := 5) (x := "onward") (nms := ["table", "step", "names", "bound", "skip", "onward", "state", "places", "word", "place", "moved", "pair", "told", "due", "passed"]) ?bpD ?bhD rfl ?boD rfl
      case bpD => tm_at "put"
      case boD => rfl
      case bhD =>
        refine' HE.bin ?l7 ?r7 Op.sub
        case l7 =>
          refine HE.castV (r := (dget (intsD acc) m).getD (.int 0)) ?_ (by rw [dget_ints]; cases dgetZ acc m <;> rfl)
          tm_at "x"
        case r7 =>
          refine' HE.bin ?w1 ?w2 (Op.mul ?w3)
          case w3 => tm_at "sz"
          case w1 =>
            refine' HE.sub' (v := .dict (intsD kv)) (i := .int s) ?l10 ?r10 ?v10 (Op.dgetI (by rw [dget_ints, hv]; rfl)) ?hsl10
            case hsl10 => exact fun _ _ => ⟨_, rfl⟩
            case l10 => tm_at "x"
            case r10 => tm_at "x"
            case v10 => rfl
          case w2 =>
            refine HE.castV (r := .int ((-1) ^ ((w.map V.int).length : Int).toNat)) ?_ (by rw [List.length_map, Int.toNat_natCast])
            refine' HE.bin ?w4 ?w5 (Op.pow ?w6 ?w7)
            case w4 => tm_at "x"
            case w5 =>
              tm_at "x"
              rw [List.length_map]; exact (w12 hsl).1
            case w6 => exact Int.natCast_nonneg _
            case w7 => rw [List.length_map]; exact (w12 hsl).2
    case i7 => tm_at "x"
    case p7 => tm_at "put"
    case z7 => show (intsD acc).length ≤ _; rw [intsD_len]; exact Nat.le_trans hacc (by decide)
    case v7 => rfl
    case o7 => rfl
    case n7 =>
      rw [dset_ints]
      exact HS.nil (hP _ _ _ _ _ (okB_imm _) (okB_imm _) (okB_imm _) (okB_imm _) (okB_imm _))
theorem foldl_move_len {kv : List (Int × Int)} {s step : Int} : ∀ (l : List Int) (acc : List (Int × Int)), (l.foldl (moveZ kv s step) acc).length ≤ acc.length + l.length
  | [], acc => Nat.le_refl _
  | p :: r, acc => by
    have h := foldl_move_len (kv := kv) (s := s) (step := step) r (moveZ kv s step acc p)
    have h1 := moveZ_len (kv := kv) (acc := acc) (s := s) (step := step) (p := p)
    show (r.foldl _ (moveZ kv s step acc p)).length ≤ acc.length + (r.length + 1)
    omega
theorem foldl_onw_len {kv : List (Int × Int)} {step : Int} : ∀ (l : List Int) (acc : List (Int × Int)), (l.foldl (onwS kv step) acc).length ≤ acc.length + 12 * l.length
  | [], acc => Nat.le_refl _
  | s :: r, acc => by
    have h := foldl_onw_len (kv := kv) (step := step) r (onwS kv step acc s)
    have h1 : (onwS kv step acc s).length ≤ acc.length + (spots s).length := foldl_move_len _ _
    have h2 := spots_len s
    show (r.foldl _ (onwS kv step acc s)).length ≤ acc.length + 12 * (r.length + 1)
    omega
theorem take12 {l : List Int} (h : l.length ≤ 12) (i : Nat) : (l.take i).length ≤ 12 := Nat.le_trans (by rw [List.length_take]; exact Nat.min_le_right ..) h
theorem onw_acc {kv : List (Int × Int)} {step : Int} {l : List Int} (h : l.length ≤ 12) : (l.foldl (onwS kv step) []).length ≤ 144 :=
  Nat.le_trans (foldl_onw_len l []) (by rw [List.length_nil]; omega)
theorem mov_acc {kv acc : List (Int × Int)} {s step : Int} {l : List Int} (h : l.length ≤ 12) (ha : acc.length ≤ 144) : (l.foldl (moveZ kv s step) acc).length ≤ 1000 :=
  Nat.le_trans (foldl_move_len l acc) (by omega)
theorem take_fold {α β : Type} {f : β → α → β} {b : β} {l : List α} {i : Nat} {a : α} (h : l[i]? = some a) : (l.take (i + 1)).foldl f b = f ((l.take i).foldl f b) a := by
  rw [List.take_add_one, h, List.foldl_append]; rfl
theorem law_onward_ok {kv : List (Int × Int)} {step bound sk : Int} (hst : 0 ≤ step ∧ step ≤ 20) (hl : kv.length ≤ 12) (hkv : ∀ s ∈ keysZ kv, PlOk s ∧ (∃ v, dgetZ kv s = some v ∧ Builtin.Int.intBits v ≤ 100) ∧ ∀ p ∈ spots s, TurnOk s p step bound sk)
    (D : DefAt W "_law_onward" (parAt 21) (bodyAt 21) (scAt 21))
    (hpf : ∀ x, PlOk x → CallOk W n "pretty_flags" [.int x] (.val (.str (flagT x)))) (hpl : ∀ x, PlOk x → CallOk W n "_law_places" [.str (flagT x), .list (flagN.map .str)] (.val (.list ((spots x).map .int))))
    (hsp : ∀ x, CallOk W n "_law_spell" [.int x, .int sk] (.val (.str (spellI x sk)))) (hlv : ∀ xs ys mc, xs.length ≤ 40 → ys.length ≤ 40 → CallOk W n "_levenshtein_distance" [.str (mk xs), .str (mk ys), .int mc] (.val (.int (levN xs ys mc))))
    (hr : Bi W "range" (.type "range")) (hsu : Bi W "sum" (.builtin "sum")) (his : Bi W "isinstance" (.builtin "isinstance")) (hin : Bi W "int" (.type "int")) (hle : Bi W "len" (.builtin "len")) (hso : Bi W "sorted" (.builtin "sorted")) :
    CallOk W (n + 1) "_law_onward" [.dict (intsD kv), .int step, .list (flagN.map .str), .int bound, .int sk] (.val (.dict (intsD (onwZ kv step)))) := by
  refine CallOk.of D K21 rfl ?_
  have F := F21
  have F' := F.fc
  rw [F.nm]
  show HS W n (scAt 21) [.imm (.dict (intsD kv)), .imm (.int step), .imm (.list (flagN.map .str)), .imm (.int bound), .imm (.int sk), .unb, .unb, .unb, .unb, .unb, .unb, .unb, .unb, .unb, .unb] (bodyAt 21) _
  refine' HS.asgD F (v := intsD []) ?e1 ?p1 ?n1
  case e1 => exact HE.dict0
  case p1 => tm_at "put"
  case n1 =>
  let Inv : Nat → List Bd → Prop := fun i ρ => ∃ (x1 x2 x3 x4 a b c d e : Bd), ρ = [.imm (.dict (intsD kv)), .imm (.int step), .imm (.list (flagN.map .str)), .imm (.int bound), .imm (.int sk), .mutD (intsD (((keysZ kv).take i).foldl (onwS kv step) [])), x1, x2, x3, x4, a, b, c, d, e] ∧
    okB x1 ∧ okB x2 ∧ okB x3 ∧ okB x4 ∧ okB a ∧ okB b ∧ okB c ∧ okB d ∧ okB e
  have hkl := keysZ_len (kvs := kv)
  refine' HS.thn (HT.for (vs := (keysZ kv).map .int) Inv 6 ?hi ?h0 ?hturn ?hend ?hx ?hfr ?hs)
  case hi =>
    refine' HI.v (v := .list ((keysZ kv).map .int)) ?hs4 OpI.list
    case hs4 =>
    refine' HE.toV (HE.bi F' ?m4 hso ?a4 (OpC.sortedZ ?z4) ?he4 ?hpl4)
    case he4 => intro _; rfl
    case hpl4 => intro _; rfl
    case m4 => tm_at "mem"
    case a4 => tm_at "ha"
    case z4 => omega
  case h0 => exact ⟨.unb, .unb, .unb, .unb, .unb, .unb, .unb, .unb, .unb, rfl, ⟨rfl, rfl⟩, ⟨rfl, rfl⟩, ⟨rfl, rfl⟩, ⟨rfl, rfl⟩, ⟨rfl, rfl⟩, ⟨rfl, rfl⟩, ⟨rfl, rfl⟩, ⟨rfl, rfl⟩, ⟨rfl, rfl⟩⟩
  case hx => rw [F.nm]; rfl
  case hfr => decide +kernel
  case hs => intro _ _; rfl
  case hturn =>
    rintro i v ρ' hv ⟨x1, x2, x3, x4, a, b, c, d, e, rfl, hx1, hx2, hx3, hx4, ha, hb, hc, hd, he⟩
    rw [List.getElem?_map] at hv
    obtain ⟨s, hs, rfl⟩ := Option.map_eq_some_iff.mp hv
    obtain ⟨hps, hvs, hts⟩ := hkv s (List.mem_of_getElem? hs)
    have hacc : (((keysZ kv).take i).foldl (onwS kv step) []).length ≤ 144 := onw_acc (take12 (hkl ▸ hl) i)
    have hnx := take_fold (f := onwS kv step) (b := []) hs
    generalize ((keysZ kv).take i).foldl (onwS kv step) [] = acc at hacc hnx ⊢
    show HS W n (scAt 21) [.imm (.dict (intsD kv)), .imm (.int step), .imm (.list (flagN.map .str)), .imm (.int bound), .imm (.int sk), .mutD (intsD acc), .imm (.int s), x2, x3, x4, a, b, c, d, e] stB _
    refine' HS.asg F (v := .list ((spots s).map .int)) ?e6 ?p6 ?n6
    case e6 =>
      refine' HE.fn F' ?m6 (HA.cons ?a61 (HA.cons ?a62 HA.nil)) (hpl _ hps) ?h6
      case m6 => tm_at "mem"
      case h6 => intro _; rfl
      case a62 => tm_at "x"
      case a61 =>
        refine' HE.fn F' ?m7 (HA.cons ?a71 HA.nil) (hpf _ hps) ?h7
        case m7 => tm_at "mem"
        case h7 => intro _; rfl
        case a71 => tm_at "x"
    case p6 => tm_at "put"
    case n6 =>
    refine' HS.ifN (c := isNoneV (.list ((spots s).map .int))) ?t7 (by intro h; cases h) ?nI
    case t7 =>
      refine' HB.cmpN ?t8
      case t8 => tm_at "x"
    case nI =>
    intro _
    refine' HS.asg F (v := .str (mk (wordL s sk))) ?e8 ?p8 ?n8
    case e8 =>
      rw [← spell_mk]
      refine' HE.fn F' ?m8 ?a8 (hsp s) ?h8
      case m8 => tm_at "mem"
      case a8 => tm_at "ha"
      case h8 => intro _; rfl
    case p8 => tm_at "put"
    case n8 =>
    let Inv2 : Nat → List Bd → Prop := fun j ρ => ∃ (x4 a b c d e : Bd), ρ = [.imm (.dict (intsD kv)), .imm (.int step), .imm (.list (flagN.map .str)), .imm (.int bound), .imm (.int sk), .mutD (intsD (((spots s).take j).foldl (moveZ kv s step) acc)), .imm (.int s), .imm (.list ((spots s).map .int)), .imm (.str (mk (wordL s sk))), x4, a, b, c, d, e] ∧
      okB x4 ∧ okB a ∧ okB b ∧ okB c ∧ okB d ∧ okB e
    refine' HS.last (HT.for (vs := (spots s).map .int) Inv2 9 ?hi2 ?h02 ?hturn2 ?hend2 ?hx2 ?hfr2 ?hs2)
    case hi2 => exact HI.v (v := .list ((spots s).map .int)) (by tm_at "x") OpI.list
    case h02 => exact ⟨x4, a, b, c, d, e, rfl, hx4, ha, hb, hc, hd, he⟩
    case hx2 => rw [F.nm]; rfl
    case hfr2 => decide +kernel
    case hs2 => intro _ _; rfl
    case hturn2 =>
      rintro j v ρ' hv ⟨x4, a, b, c, d, e, rfl, hx4, ha, hb, hc, hd, he⟩
      rw [List.getElem?_map] at hv
      obtain ⟨p, hp, rfl⟩ := Option.map_eq_some_iff.mp hv
      have hnx2 := take_fold (f := moveZ kv s step) (b := acc) hp
      have hacc2 : (((spots s).take j).foldl (moveZ kv s step) acc).length ≤ 1000 := mov_acc (take12 (spots_len s) j) hacc
      generalize ((spots s).take j).foldl (moveZ kv s step) acc = acc2 at hacc2 hnx2 ⊢
      show HS W n (scAt 21) [.imm (.dict (intsD kv)), .imm (.int step), .imm (.list (flagN.map .str)), .imm (.int bound), .imm (.int sk), .mutD (intsD acc2), .imm (.int s), .imm (.list ((spots s).map .int)), .imm (.str (mk (wordL s sk))), .imm (.int p), a, b, c, d, e] plB _
      exact onw_turn (hts p (List.mem_of_getElem? hp)) hst hacc2 hvs hpf hpl hsp hlv hr hsu his hin hle ha hb hc hd he fun a b c d e ha hb hc hd he => ⟨_, a, b, c, d, e, by rw [hnx2], okB_imm _, ha, hb, hc, hd, he⟩
    case hend2 =>
      rintro ρ' ⟨x4, a, b, c, d, e, rfl, hx4, ha, hb, hc, hd, he⟩
      rw [List.length_map, List.take_length]
      exact HS.nil ⟨_, _, _, _, _, _, _, _, _, by rw [hnx]; rfl, okB_imm _, okB_imm _, okB_imm _, hx4, ha, hb, hc, hd, he⟩
  case hend =>
    rintro ρ' ⟨x1, x2, x3, x4, a, b, c, d, e, rfl, hx1, hx2, hx3, hx4, ha, hb, hc, hd, he⟩
    rw [List.length_map, List.take_length]
    refine HS.next ?_
    show HS W n (scAt 21) [.imm (.dict (intsD kv)), .imm (.int step), .imm (.list (flagN.map .str)), .imm (.int bound), .imm (.int sk), .mutD (intsD (onwZ kv step)), x1, x2, x3, x4, a, b, c, d, e] ((bodyAt 21).drop 2) _
    refine' HS.fzD (nms := ["table", "step", "names", "bound", "skip", "onward", "state", "places", "word", "place", "moved", "pair", "told", "due", "passed"]) "onward" ?p9 ?n9 ?v9 ?o9
    case p9 => tm_at "put"
    case v9 => rfl
    case o9 => simp only [oneD, noD, hx1.2, hx2.2, hx3.2, hx4.2, ha.2, hb.2, hc.2, hd.2, he.2]; rfl
    case n9 =>
    refine' HS.ret ?hret ?hpost
    case hpost => exact rfl
    case hret => tm_at "x"
end

/-! part G23 -/
section
open PySem PySem.W PyProof.Rows PySem.Calls
set_option maxRecDepth 100000
variable {W : Wd} {n : Nat}
theorem F23 : FF (scAt 23) ["rows", "a", "b", "c", "front"] [] := ⟨by decide +kernel, by decide +kernel, by decide +kernel⟩
theorem K23 : FnOk "_law_det" (parAt 23) (bodyAt 23) (scAt 23) ["rows"] where
  nodup := by rw [F23.nm]; decide +kernel
  plain := by rw [F23.nm]; decide +kernel
  first := by rw [F23.nm]; rfl
  kind := by rfl
  co := by rfl
  gen := by rfl
  kinds := by rw [F23.nm]; decide +kernel
  cellk := by decide +kernel
  bind := fun pm cd doc xs h => by obtain ⟨a, rfl⟩ := len_1 h; rfl
noncomputable def det3 (a0 a1 a2 b0 b1 b2 c0 c1 c2 : Int) : Int := a0 * (b1 * c2 - b2 * c1) - a1 * (b0 * c2 - b2 * c0) + a2 * (b0 * c1 - b1 * c0)
noncomputable def row3 (a b c : Int) : V := .list [.int a, .int b, .int c]
theorem law_det_ok {a0 a1 a2 b0 b1 b2 c0 c1 c2 : Int} (D : DefAt W "_law_det" (parAt 23) (bodyAt 23) (scAt 23)) (ha0 : Builtin.Int.intBits a0 ≤ 400) (ha1 : Builtin.Int.intBits a1 ≤ 400) (ha2 : Builtin.Int.intBits a2 ≤ 400)
    (hb0 : Builtin.Int.intBits b0 ≤ 400) (hb1 : Builtin.Int.intBits b1 ≤ 400) (hb2 : Builtin.Int.intBits b2 ≤ 400) (hc0 : Builtin.Int.intBits c0 ≤ 400) (hc1 : Builtin.Int.intBits c1 ≤ 400) (hc2 : Builtin.Int.intBits c2 ≤ 400) :
    CallOk W (n + 1) "_law_det" [.list [row3 a0 a1 a2, row3 b0 b1 b2, row3 c0 c1 c2]] (.val (.int (det3 a0 a1 a2 b0 b1 b2 c0 c1 c2))) := by
  refine CallOk.of D K23 rfl ?_
  have F := F23
  have F' := F.fc
  rw [F.nm]
  show HS W n (scAt 23) [.imm (.list [row3 a0 a1 a2, row3 b0 b1 b2, row3 c0 c1 c2]), .unb, .unb, .unb, .unb] (bodyAt 23) _
  refine' HS.unL F ?e1 ?p1 ?n1 ?s1 ?w1
  case s1 => intro _; rfl
  case w1 => intro env e; cases env; cases e; rfl
  case e1 => tm_at "x"
  case p1 => tm_at "puts"
  case n1 =>
  unfold row3
  refine' HS.asg F (v := .int (a0 * (b1 * c2 - b2 * c1))) ?e2 ?p2 ?n2
  case e2 =>
    tm_at "x"
    all_goals tm_at "sz"
  case p2 => tm_at "put"
  case n2 =>
  refine' HS.ret (v := .int (det3 a0 a1 a2 b0 b1 b2 c0 c1 c2)) ?hret ?hpost
  case hpost => exact rfl
  case hret =>
    unfold det3
    refine' HE.bin (HE.bin ?l ?r Op.sub) ?r2 Op.add
    case l => tm_at "x"
    case r =>
      tm_at "x"
      all_goals tm_at "sz"
    case r2 =>
      tm_at "x"
      all_goals tm_at "sz"
end

/-! part G24 -/
section
open PySem PySem.W PyProof.Rows PySem.Calls
set_option maxRecDepth 100000
variable {W : Wd} {n : Nat}
theorem F24 : FF (scAt 24) ["places", "numbers"] ["_law_det"] := ⟨by decide +kernel, by decide +kernel, by decide +kernel⟩
theorem K24 : FnOk "_law_alternant" (parAt 24) (bodyAt 24) (scAt 24) ["places", "numbers"] where
  nodup := by rw [F24.nm]; decide +kernel
  plain := by rw [F24.nm]; decide +kernel
  first := by rw [F24.nm]; rfl
  kind := by rfl
  co := by rfl
  gen := by rfl
  kinds := by rw [F24.nm]; decide +kernel
  cellk := by decide +kernel
  bind := fun pm cd doc xs h => by obtain ⟨a, b, rfl⟩ := len_2 h; rfl
noncomputable def alt3 (x0 x1 x2 : Int) (p0 p1 p2 : Nat) : Int := det3 (x0 ^ p0) (x0 ^ p1) (x0 ^ p2) (x1 ^ p0) (x1 ^ p1) (x1 ^ p2) (x2 ^ p0) (x2 ^ p1) (x2 ^ p2)
theorem pow_bits {x : Int} {p : Nat} (hx : Builtin.Int.intBits x ≤ 8) (hp : p ≤ 14) : Builtin.Int.intBits (x ^ p) ≤ 400 := by
  have := intBits_pow_le hx p
  refine Nat.le_trans this ?_
  have : 8 * p ≤ 8 * 14 := Nat.mul_le_mul_left _ hp
  omega
theorem law_alternant_ok {x0 x1 x2 : Int} {p0 p1 p2 : Nat} (hx0 : Builtin.Int.intBits x0 ≤ 8) (hx1 : Builtin.Int.intBits x1 ≤ 8) (hx2 : Builtin.Int.intBits x2 ≤ 8) (hp0 : p0 ≤ 14) (hp1 : p1 ≤ 14) (hp2 : p2 ≤ 14)
    (D : DefAt W "_law_alternant" (parAt 24) (bodyAt 24) (scAt 24)) (Dd : DefAt W "_law_det" (parAt 23) (bodyAt 23) (scAt 23)) :
    CallOk W (n + 2) "_law_alternant" [.list [.int p0, .int p1, .int p2], .list [.int x0, .int x1, .int x2]] (.val (.int (alt3 x0 x1 x2 p0 p1 p2))) := by
  refine CallOk.of D K24 rfl ?_
  have F := F24
  have F' := F.fc
  rw [F.nm]
  show HS W (n + 1) (scAt 24) [.imm (.list [.int p0, .int p1, .int p2]), .imm (.list [.int x0, .int x1, .int x2])] (bodyAt 24) _
  have hps : ∀ p ∈ [p0, p1, p2], p ≤ 14 := fun p hp => by
    simp only [List.mem_cons, List.not_mem_nil, or_false] at hp
    rcases hp with rfl | rfl | rfl <;> assumption
  have hxs : ∀ x ∈ [x0, x1, x2], Builtin.Int.intBits x ≤ 8 := fun x hx => by
    simp only [List.mem_cons, List.not_mem_nil, or_false] at hx
    rcases hx with rfl | rfl | rfl <;> assumption
  have c := law_det_ok (W := W) (n := n) (a0 := x0 ^ p0) (a1 := x0 ^ p1) (a2 := x0 ^ p2) (b0 := x1 ^ p0) (b1 := x1 ^ p1) (b2 := x1 ^ p2) (c0 := x2 ^ p0) (c1 := x2 ^ p1) (c2 := x2 ^ p2) Dd
    (pow_bits hx0 hp0) (pow_bits hx0 hp1) (pow_bits hx0 hp2) (pow_bits hx1 hp0) (pow_bits hx1 hp1) (pow_bits hx1 hp2) (pow_bits hx2 hp0) (pow_bits hx2 hp1) (pow_bits hx2 hp2)
  refine' HS.ret (v := .int (alt3 x0 x1 x2 p0 p1 p2)) ?hret ?hpost
  case hpost => exact rfl
  case hret =>
    refine' HE.fn F' ?m (HA.cons ?a HA.nil ?hs1) c ?he
    case m => tm_at "mem"
    case he => intro _; rfl
    case hs1 => intro _; rfl
    case a =>
      refine CompR.hv ?_
      show CompR W (n + 1) (scAt 24) _ _ _ _ _ (([x0, x1, x2].filter fun _ => true).map fun x => V.list (([p0, p1, p2].filter fun _ => true).map fun p => V.int (x ^ p)))
      refine' CompR.mapA (as := [x0, x1, x2]) (fv := V.int) (caps := [none, some 0]) 0 (fun _ => true) (fun x => V.list (([p0, p1, p2].filter fun _ => true).map fun p => V.int (x ^ p))) ?hi ?ok ?him (fun b => [b, .imm (.list [.int p0, .int p1, .int p2])]) ?hR ?hlen ?ht ?he ?how ?hx ?hfr ?hs
      case hR => intro _; rfl
      case hi => exact HI.v (v := .list [.int x0, .int x1, .int x2]) (by tm_at "x") OpI.list
      case ok => tm_at "ok"
      case him => tm_at "him"
      case hlen => exact Nat.le_of_ble_eq_true rfl
      case ht => intro v _; exact HTests.nil
      case he =>
        intro x hx _
        refine HE.fc (nms := ["x", "places"]) (gl := []) (by tm_at "fc") fun G => ?_
        refine CompR.hv ?_
        refine' CompR.mapA (as := [p0, p1, p2]) (fv := fun p : Nat => V.int p) (caps := [none, some 0]) 0 (fun _ => true) (fun p => V.int (x ^ p)) ?hi2 ?ok2 ?him2 (fun b => [b, .imm (.int x)]) ?hR2 ?hlen2 ?ht2 ?he2 ?how2 ?hx2 ?hfr2 ?hs2
        case hR2 => intro _; rfl
        case hi2 => exact HI.v (v := .list [.int p0, .int p1, .int p2]) (by tm_at "x") OpI.list
        case ok2 => tm_at "ok"
        case him2 => tm_at "him"
        case hlen2 => exact Nat.le_of_ble_eq_true rfl
        case ht2 => intro v _; exact HTests.nil
        case he2 =>
          intro p hp _
          refine HE.fc (nms := ["k", "x"]) (gl := []) (by tm_at "fc") fun G' => ?_
          have hpp := hps p hp
          have hxx := hxs x hx
          refine HE.castV (r := .int (x ^ (p : Int).toNat)) ?_ (by rw [Int.toNat_natCast])
          tm_at "x"
          · omega
          · exact sz_pow hxx (by omega) (by omega)
        case how2 => tm_at "how"
        case hx2 => decide +kernel
        case hfr2 => decide +kernel
        case hs2 => intro _ _; rfl
      case how => tm_at "how"
      case hx => decide +kernel
      case hfr => decide +kernel
      case hs => intro _ _; rfl
end

/-! part G26 -/
section
open PySem PySem.W PyProof.Rows PySem.Calls
set_option maxRecDepth 100000
variable {W : Wd} {n : Nat}
theorem F26 : FF (scAt 26) ["places", "sums"] ["_law_det"] := ⟨by decide +kernel, by decide +kernel, by decide +kernel⟩
theorem K26 : FnOk "_law_jacobi" (parAt 26) (bodyAt 26) (scAt 26) ["places", "sums"] where
  nodup := by rw [F26.nm]; decide +kernel
  plain := by rw [F26.nm]; decide +kernel
  first := by rw [F26.nm]; rfl
  kind := by rfl
  co := by rfl
  gen := by rfl
  kinds := by rw [F26.nm]; decide +kernel
  cellk := by decide +kernel
  bind := fun pm cd doc xs h => by obtain ⟨a, b, rfl⟩ := len_2 h; rfl
/-- the determinant of the sums h, by the places -/
noncomputable def jac3 (h : Nat → Int) (p0 p1 p2 : Nat) : Int := det3 (h (p0 + 2)) (h (p0 + 1)) (h p0) (h (p1 + 2)) (h (p1 + 1)) (h p1) (h (p2 + 2)) (h (p2 + 1)) (h p2)
noncomputable def sumsV (h : Nat → Int) : List V := (List.range 13).map fun k => V.int (h k)
theorem sums_at (h : Nat → Int) {k : Nat} (hk : k < 13) : (sumsV h)[k]? = some (.int (h k)) := by
  rw [sumsV, List.getElem?_map, List.getElem?_range hk]; rfl
theorem pj_facts {p : Nat} (h : p ≤ 10) : ((0 : Int) ≤ (p : Int) + 2 ∧ (p : Int) + 2 < 1000000 ∧ ((p : Int) + 2).toNat = p + 2 ∧ p + 2 < 13) ∧ ((0 : Int) ≤ (p : Int) + 1 ∧ (p : Int) + 1 < 1000000 ∧ ((p : Int) + 1).toNat = p + 1 ∧ p + 1 < 13) ∧ ((0 : Int) ≤ (p : Int) ∧ (p : Int) < 1000000 ∧ p < 13) := by omega
theorem pi_lt {p i : Nat} (hp : p ≤ 10) (hi : i ≤ 2) : p + i < 13 := by omega
theorem law_jacobi_ok {h : Nat → Int} {p0 p1 p2 : Nat} (hb : ∀ k, k < 13 → Builtin.Int.intBits (h k) ≤ 400) (hp0 : p0 ≤ 10) (hp1 : p1 ≤ 10) (hp2 : p2 ≤ 10)
    (D : DefAt W "_law_jacobi" (parAt 26) (bodyAt 26) (scAt 26)) (Dd : DefAt W "_law_det" (parAt 23) (bodyAt 23) (scAt 23)) :
    CallOk W (n + 2) "_law_jacobi" [.list [.int p0, .int p1, .int p2], .list (sumsV h)] (.val (.int (jac3 h p0 p1 p2))) := by
  refine CallOk.of D K26 rfl ?_
  have F := F26
  have F' := F.fc
  rw [F.nm]
  show HS W (n + 1) (scAt 26) [.imm (.list [.int p0, .int p1, .int p2]), .imm (.list (sumsV h))] (bodyAt 26) _
  have hps : ∀ p ∈ [p0, p1, p2], p ≤ 10 := fun p hp => by
    simp only [List.mem_cons, List.not_mem_nil, or_false] at hp
    rcases hp with rfl | rfl | rfl <;> assumption
  have b := fun (p : Nat) (hp : p ≤ 10) (i : Nat) (hi : i ≤ 2) => hb (p + i) (pi_lt hp hi)
  have c := law_det_ok (W := W) (n := n) Dd (b p0 hp0 2 (by decide)) (b p0 hp0 1 (by decide)) (b p0 hp0 0 (by decide)) (b p1 hp1 2 (by decide)) (b p1 hp1 1 (by decide)) (b p1 hp1 0 (by decide)) (b p2 hp2 2 (by decide)) (b p2 hp2 1 (by decide)) (b p2 hp2 0 (by decide))
  refine' HS.ret (v := .int (jac3 h p0 p1 p2)) ?hret ?hpost
  case hpost => exact rfl
  case hret =>
    refine' HE.fn F' ?m (HA.cons ?a HA.nil ?hs1) c ?he
    case m => tm_at "mem"
    case he => intro _; rfl
    case hs1 => intro _; rfl
    case a =>
      refine CompR.hv ?_
      show CompR W (n + 1) (scAt 26) _ _ _ _ _ (([p0, p1, p2].filter fun _ => true).map fun p => row3 (h (p + 2)) (h (p + 1)) (h p))
      refine' CompR.mapA (as := [p0, p1, p2]) (fv := fun p : Nat => V.int p) (caps := [none, some 1]) 0 (fun _ => true) (fun p => row3 (h (p + 2)) (h (p + 1)) (h p)) ?hi ?ok ?him (fun b => [b, .imm (.list (sumsV h))]) ?hR ?hlen ?ht ?he ?how ?hx ?hfr ?hs
      case hR => intro _; rfl
      case hi => exact HI.v (v := .list [.int p0, .int p1, .int p2]) (by tm_at "x") OpI.list
      case ok => tm_at "ok"
      case him => tm_at "him"
      case hlen => exact Nat.le_of_ble_eq_true rfl
      case ht => intro v _; exact HTests.nil
      case he =>
        intro p hp _
        obtain ⟨⟨a1, a2, a3, a4⟩, ⟨b1, b2, b3, b4⟩, c1, c2, c3⟩ := pj_facts (hps p hp)
        refine HE.fc (nms := ["k", "sums"]) (gl := []) (by tm_at "fc") fun G => ?_
        refine' HE.list' (HA.cons ?x0 (HA.cons ?x1 (HA.cons ?x2 HA.nil ?s2) ?s1) ?s0) (Nat.le_of_ble_eq_true rfl)
        case s0 | s1 | s2 => intro _; rfl
        case x0 =>
          refine' HE.sub' (v := .list (sumsV h)) (i := .int ((p : Int) + 2)) ?l ?r ?v (Op.itemL a1 a2 ?i3) ?hsl
          case hsl => exact fun _ _ => ⟨_, rfl⟩
          case l => tm_at "x"
          case r => tm_at "x"
          case v => rfl
          case i3 => rw [a3]; exact sums_at h a4
        case x1 =>
          refine' HE.sub' (v := .list (sumsV h)) (i := .int ((p : Int) + 1)) ?l ?r ?v (Op.itemL b1 b2 ?i3) ?hsl
          case hsl => exact fun _ _ => ⟨_, rfl⟩
          case l => tm_at "x"
          case r => tm_at "x"
          case v => rfl
          case i3 => rw [b3]; exact sums_at h b4
        case x2 =>
          refine' HE.sub' (v := .list (sumsV h)) (i := .int (p : Int)) ?l ?r ?v (Op.itemL c1 c2 ?i3) ?hsl
          case hsl => exact fun _ _ => ⟨_, rfl⟩
          case l => tm_at "x"
          case r => tm_at "x"
          case v => rfl
          case i3 => rw [Int.toNat_natCast]; exact sums_at h c3
      case how => tm_at "how"
      case hx => decide +kernel
      case hfr => decide +kernel
      case hs => intro _ _; rfl
end

/-! part G25 -/
section
open PySem PySem.W PyProof.Rows PySem.Calls
set_option maxRecDepth 100000
variable {W : Wd} {n : Nat}
theorem F25 : FF (scAt 25) ["numbers", "sums", "x", "k"] ["range"] := ⟨by decide +kernel, by decide +kernel, by decide +kernel⟩
theorem K25 : FnOk "_law_sums" (parAt 25) (bodyAt 25) (scAt 25) ["numbers"] where
  nodup := by rw [F25.nm]; decide +kernel
  plain := by rw [F25.nm]; decide +kernel
  first := by rw [F25.nm]; rfl
  kind := by rfl
  co := by rfl
  gen := by rfl
  kinds := by rw [F25.nm]; decide +kernel
  cellk := by decide +kernel
  bind := fun pm cd doc xs h => by obtain ⟨a, rfl⟩ := len_1 h; rfl
/-- one number's turn -/
noncomputable def hpass (x : Int) (h : Nat → Int) : Nat → Int
  | 0 => h 0
  | 1 => h 1
  | 2 => h 2
  | k + 3 => h (k + 3) + x * hpass x h (k + 2)
noncomputable def h0 : Nat → Int := fun k => if k = 2 then 1 else 0
noncomputable def hsum (x0 x1 x2 : Int) : Nat → Int := hpass x2 (hpass x1 (hpass x0 h0))
theorem hpass_bound {x : Int} {h : Nat → Int} {c : Nat} (hx : x.natAbs ≤ 16) (hb : ∀ k, (h k).natAbs ≤ c * 32 ^ k) : ∀ k, (hpass x h k).natAbs ≤ 2 * c * 32 ^ k
  | 0 => by have := hb 0; simp only [hpass] at this ⊢; omega
  | 1 => by have := hb 1; simp only [hpass] at this ⊢; omega
  | 2 => by have := hb 2; simp only [hpass] at this ⊢; omega
  | k + 3 => by
    have h1 := hb (k + 3)
    have h2 := hpass_bound hx hb (k + 2)
    simp only [hpass]
    have h3 : (h (k + 3) + x * hpass x h (k + 2)).natAbs ≤ (h (k + 3)).natAbs + (x * hpass x h (k + 2)).natAbs := Int.natAbs_add_le _ _
    rw [Int.natAbs_mul] at h3
    have h4 : x.natAbs * (hpass x h (k + 2)).natAbs ≤ 16 * (2 * c * 32 ^ (k + 2)) := Nat.mul_le_mul hx h2
    have e : 2 * c * 32 ^ (k + 3) = 2 * c * 32 ^ (k + 2) * 32 := by rw [Nat.pow_succ 32 (k + 2), ← Nat.mul_assoc]
    have e' : c * 32 ^ (k + 3) = c * 32 ^ (k + 2) * 32 := by rw [Nat.pow_succ 32 (k + 2), ← Nat.mul_assoc]
    rw [e]
    rw [e'] at h1
    have e2 : 2 * c * 32 ^ (k + 2) = 2 * (c * 32 ^ (k + 2)) := by rw [Nat.mul_assoc]
    rw [e2] at h4 ⊢
    omega
theorem bits_of_bound {a : Int} {c k : Nat} (hc : c ≤ 8) (hk : k ≤ 12) (h : a.natAbs ≤ c * 32 ^ k) : Builtin.Int.intBits a ≤ 400 := by
  refine Nat.le_trans (intBits_le (m := 64) ?_) (by decide)
  have h1 : c * 32 ^ k ≤ 8 * 32 ^ 12 := Nat.mul_le_mul hc (Nat.pow_le_pow_right (by decide) hk)
  have h2 : 8 * 32 ^ 12 < 2 ^ 64 := by decide
  omega
/-- half of a turn -/
noncomputable def hmix (x : Int) (h : Nat → Int) (j : Nat) : Nat → Int := fun k => if k < 3 + j then hpass x h k else h k
theorem hmix_0 (x : Int) (h : Nat → Int) : hmix x h 0 = h := funext fun k => by
  unfold hmix
  split
  · rename_i hk
    match k, hk with
    | 0, _ => rfl
    | 1, _ => rfl
    | 2, _ => rfl
    | k + 3, hk => omega
  · rfl
theorem sumsV_len (h : Nat → Int) : (sumsV h).length = 13 := by simp [sumsV]
theorem hmix_set (x : Int) (h : Nat → Int) {j : Nat} (hj : j < 10) : (sumsV (hmix x h j)).set (3 + j) (.int (hmix x h j (3 + j) + x * hmix x h j (2 + j))) = sumsV (hmix x h (j + 1)) := by
  have e1 : hmix x h j (3 + j) = h (3 + j) := by unfold hmix; rw [if_neg (by omega)]
  have e2 : hmix x h j (2 + j) = hpass x h (2 + j) := by unfold hmix; rw [if_pos (by omega)]
  apply List.ext_getElem?
  intro i
  by_cases hi : i < 13
  · rw [sums_at _ hi, List.getElem?_set]
    by_cases q : 3 + j = i
    · subst q
      rw [if_pos rfl, if_pos (by rw [sumsV_len]; exact hi), e1, e2]
      have : hmix x h (j + 1) (3 + j) = h (3 + j) + x * hpass x h (2 + j) := by
        unfold hmix
        rw [if_pos (by omega), show 3 + j = j + 3 by omega, hpass, show 2 + j = j + 2 by omega]
      rw [this]
    · rw [if_neg q, sums_at _ hi]
      congr 2
      unfold hmix
      by_cases c : i < 3 + j
      · rw [if_pos c, if_pos (by omega)]
      · rw [if_neg c, if_neg (by omega)]
  · rw [List.getElem?_eq_none (by rw [List.length_set, sumsV_len]; omega), List.getElem?_eq_none (by rw [sumsV_len]; omega)]
theorem hmix_10 (x : Int) (h : Nat → Int) : sumsV (hmix x h 10) = sumsV (hpass x h) := by
  unfold sumsV
  refine List.map_congr_left fun k hk => ?_
  have := List.mem_range.mp hk
  unfold hmix
  rw [if_pos (by omega)]
noncomputable def hAt (x0 x1 x2 : Int) : Nat → Nat → Int
  | 0 => h0
  | 1 => hpass x0 h0
  | 2 => hpass x1 (hpass x0 h0)
  | _ => hsum x0 x1 x2
theorem h0_bound : ∀ k, (h0 k).natAbs ≤ 1 * 32 ^ k := fun k => by
  have : 0 < 32 ^ k := Nat.pow_pos (by decide)
  unfold h0
  split <;> simp <;> omega
theorem hAt_bound {x0 x1 x2 : Int} (h0' : x0.natAbs ≤ 16) (h1 : x1.natAbs ≤ 16) (h2 : x2.natAbs ≤ 16) : ∀ i, i ≤ 3 → ∀ k, (hAt x0 x1 x2 i k).natAbs ≤ 2 ^ i * 32 ^ k
  | 0, _ => h0_bound
  | 1, _ => hpass_bound h0' h0_bound
  | 2, _ => hpass_bound h1 (hpass_bound h0' h0_bound)
  | 3, _ => hpass_bound h2 (hpass_bound h1 (hpass_bound h0' h0_bound))
theorem hmix_bits {x : Int} {h : Nat → Int} {c : Nat} (hx : x.natAbs ≤ 16) (hb : ∀ k, (h k).natAbs ≤ c * 32 ^ k) (hc : c ≤ 4) (j : Nat) {k : Nat} (hk : k ≤ 12) : Builtin.Int.intBits (hmix x h j k) ≤ 400 := by
  unfold hmix
  split
  · exact bits_of_bound (c := 2 * c) (by omega) hk (hpass_bound hx hb k)
  · exact bits_of_bound (c := c) (by omega) hk (hb k)
theorem hAt_next {x0 x1 x2 x : Int} : ∀ {i : Nat}, [x0, x1, x2][i]? = some x → hpass x (hAt x0 x1 x2 i) = hAt x0 x1 x2 (i + 1)
  | 0, h => by cases h; rfl
  | 1, h => by cases h; rfl
  | 2, h => by cases h; rfl
  | i + 3, h => by cases h
theorem hj_facts {j : Nat} (h : j < 10) : (((3 : Int) + (j : Int)).toNat = 3 + j ∧ ((3 : Int) + (j : Int) - 1).toNat = 2 + j) ∧ (0 ≤ (3 : Int) + (j : Int) ∧ (3 : Int) + (j : Int) < 1000000 ∧ (3 : Int) + (j : Int) < 13) ∧ (0 ≤ (3 : Int) + (j : Int) - 1 ∧ (3 : Int) + (j : Int) - 1 < 1000000) ∧ 3 + j < 13 ∧ 2 + j < 13 ∧ 2 + j ≤ 12 := by omega
theorem le_two {i : Nat} (h : i < 3) : i ≤ 2 := Nat.le_of_lt_succ h
theorem law_sums_ok {x0 x1 x2 : Int} (b0 : x0.natAbs ≤ 16) (b1 : x1.natAbs ≤ 16) (b2 : x2.natAbs ≤ 16) (D : DefAt W "_law_sums" (parAt 25) (bodyAt 25) (scAt 25)) (hr : Bi W "range" (.type "range")) :
    CallOk W (n + 1) "_law_sums" [.list [.int x0, .int x1, .int x2]] (.val (.list (sumsV (hsum x0 x1 x2)))) := by
  refine CallOk.of D K25 rfl ?_
  have F := F25
  have F' := F.fc
  rw [F.nm]
  show HS W n (scAt 25) [.imm (.list [.int x0, .int x1, .int x2]), .unb, .unb, .unb] (bodyAt 25) _
  refine' HS.asgL F (v := sumsV h0) ?e1 ?p1 ?n1
  case e1 =>
    show HE W n (scAt 25) _ _ (.freshL ([V.int 0, V.int 0, V.int 1] ++ List.replicate (10 : Int).toNat (V.int 0)))
    refine' HE.bin ?l ?r (Op.addL ?o)
    case l => tm_at "x"
    case r =>
      tm_at "x"
      all_goals decide
    case o => exact Nat.le_of_ble_eq_true rfl
  case p1 => tm_at "put"
  case n1 =>
  let Inv : Nat → List Bd → Prop := fun i ρ => ∃ (x y : Bd), ρ = [.imm (.list [.int x0, .int x1, .int x2]), .mutL (sumsV (hAt x0 x1 x2 i)), x, y] ∧ isL x = false ∧ isL y = false ∧ i ≤ 3
  refine' HS.thn (HT.for Inv 2 ?hi ?h0 ?hturn ?hend ?hx ?hfr ?hs)
  case hi => exact HI.v (v := .list [.int x0, .int x1, .int x2]) (by tm_at "x") OpI.list
  case h0 => exact ⟨.unb, .unb, rfl, rfl, rfl, Nat.zero_le _⟩
  case hx => rw [F.nm]; rfl
  case hfr => decide +kernel
  case hs => intro _ _; rfl
  case hturn =>
    rintro i v ρ' hv ⟨x, y, rfl, hxl, hyl, hi⟩
    obtain ⟨z, hz, rfl⟩ : ∃ z, [x0, x1, x2][i]? = some z ∧ v = .int z := by
      rw [show ([V.int x0, V.int x1, V.int x2] : List V) = [x0, x1, x2].map V.int from rfl, List.getElem?_map] at hv
      obtain ⟨z, h1, h2⟩ := Option.map_eq_some_iff.mp hv
      exact ⟨z, h1, h2.symm⟩
    have hi' : i < 3 := (List.getElem?_eq_some_iff.mp hz).1
    have hzb : z.natAbs ≤ 16 := by
      have := List.mem_of_getElem? hz
      simp only [List.mem_cons, List.not_mem_nil, or_false] at this
      rcases this with rfl | rfl | rfl <;> assumption
    have hc : 2 ^ i ≤ 4 := by
      have := Nat.pow_le_pow_right (n := 2) (by decide) (le_two hi')
      exact this
    have hb := hAt_bound b0 b1 b2 i hi
    have hnx := hAt_next hz
    generalize hAt x0 x1 x2 i = h at *
    show HS W n (scAt 25) [.imm (.list [.int x0, .int x1, .int x2]), .mutL (sumsV h), .imm (.int z), y] (forB 25 1) _
    let Inv2 : Nat → List Bd → Prop := fun j ρ => ∃ (y : Bd), ρ = [.imm (.list [.int x0, .int x1, .int x2]), .mutL (sumsV (hmix z h j)), .imm (.int z), y] ∧ isL y = false ∧ j ≤ 10
    refine' HS.last (HT.for Inv2 3 ?hi2 ?h02 ?hturn2 ?hend2 ?hx2 ?hfr2 ?hs2)
    case hi2 =>
      refine' HI.v ?hiv (OpI.range (a := 3) (b := 13) (c := 1) (k := 10) ?hk1 ?hk2)
      case hiv => tm_at "x"
      case hk1 => decide +kernel
      case hk2 => decide +kernel
    case h02 => exact ⟨y, by rw [hmix_0], hyl, Nat.zero_le _⟩
    case hx2 => rw [F.nm]; rfl
    case hfr2 => decide +kernel
    case hs2 => intro _ _; rfl
    case hturn2 =>
      rintro j v ρ' hv ⟨y, rfl, hyl, hj⟩
      have hj' : j < 10 := by
        have := (List.getElem?_eq_some_iff.mp hv).1
        simpa [rangeInts] using this
      have hvd' : v = .int (3 + (j : Int)) := by
        rw [List.getElem?_map, rangeInts, List.getElem?_map, List.getElem?_range hj'] at hv
        have := (Option.some.inj hv).symm
        rw [this]
        show V.int (3 + (j : Int) * 1) = _
        rw [Int.mul_one]
      subst hvd'
      obtain ⟨⟨t1, t2⟩, ⟨j1, j2, j3⟩, ⟨j4, j5⟩, j6, j7, j8⟩ := hj_facts hj'
      have bz : Builtin.Int.intBits z ≤ 8 := intBits_le (Nat.lt_of_le_of_lt hzb (by decide))
      have bm := hmix_bits hzb hb hc j (k := 2 + j) j8
      show HS W n (scAt 25) [.imm (.list [.int x0, .int x1, .int x2]), .mutL (sumsV (hmix z h j)), .imm (.int z), .imm (.int (3 + (j : Int)))] _ _
      refine' HS.setIdx F (k := 3 + (j : Int)) (v := .int (hmix z h j (3 + j) + z * hmix z h j (2 + j))) ?e2 ?i2 ?p2 ?k0 ?k1 ?z2 ?n2 ?v2 ?o2
      case e2 =>
        refine' HE.bwL (i := 1) (x := "sums") (nms := ["numbers", "sums", "x", "k"]) ?bp ?bh rfl rfl rfl
        case bp => tm_at "put"
        case bh =>
        refine' HE.bin ?l ?r Op.add
        case l =>
          refine' HE.sub' (v := .list (sumsV (hmix z h j))) (i := .int (3 + (j : Int))) ?l3 ?r3 ?v3 (Op.itemL j1 j2 (by rw [t1]; exact sums_at _ j6)) ?hsl
          case hsl => exact fun _ _ => ⟨_, rfl⟩
          case l3 => tm_at "x"
          case r3 => tm_at "x"
          case v3 => rfl
        case r =>
          refine' HE.bin ?l4 ?r4 (Op.mul ?o4)
          case l4 => tm_at "x"
          case r4 =>
            refine' HE.sub' (v := .list (sumsV (hmix z h j))) (i := .int (3 + (j : Int) - 1)) ?l5 ?r5 ?v5 (Op.itemL j4 j5 (by rw [t2]; exact sums_at _ j7)) ?hsl5
            case hsl5 => exact fun _ _ => ⟨_, rfl⟩
            case l5 => tm_at "x"
            case r5 => tm_at "x"
            case v5 => rfl
          case o4 => tm_at "sz"
      case i2 => tm_at "x"
      case p2 => tm_at "put"
      case k0 => exact j1
      case k1 => rw [sumsV_len (hmix z h j)]; exact j3
      case z2 => rw [sumsV_len (hmix z h j)]; exact Nat.le_of_ble_eq_true rfl
      case v2 => rfl
      case o2 => rfl
      case n2 =>
        refine HS.nil ?_
        rw [t1, hmix_set z h hj']
        exact ⟨_, rfl, rfl, hj'⟩
    case hend2 =>
      rintro ρ' ⟨y, rfl, hyl, hj⟩
      have h10 : ((rangeInts 3 1 10).map V.int).length = 10 := by simp [rangeInts]
      rw [h10, hmix_10, hnx]
      exact HS.nil ⟨_, _, rfl, rfl, hyl, hi'⟩
  case hend =>
    rintro ρ' ⟨x, y, rfl, hxl, hyl, hi⟩
    refine HS.next ?_
    show HS W n (scAt 25) [.imm (.list [.int x0, .int x1, .int x2]), .mutL (sumsV (hsum x0 x1 x2)), x, y] ((bodyAt 25).drop 2) _
    refine' HS.fzL (nms := ["numbers", "sums", "x", "k"]) "sums" ?p8 ?n8 ?v8 ?o8
    case p8 => tm_at "put"
    case v8 => rfl
    case o8 => simp only [oneL, noL, hxl, hyl]; rfl
    case n8 =>
    refine' HS.ret ?hret ?hpost
    case hret => tm_at "x"
    case hpost => exact rfl
end

/-! part N3 -/
section
open PySem PySem.W PyProof.Rows PySem.Calls
/-- one turn of the long division -/
theorem div_turn {N : Nat} {b Q r d : Int} (hb : 0 < b) (hbN : b < 2 ^ N) (hr0 : 0 ≤ r) (hr : r < b) (hd0 : 0 ≤ d) (hd : d < 2 ^ N) :
    0 ≤ r * 2 ^ N + d ∧ r * 2 ^ N + d < 2 ^ (N + N) ∧ 0 ≤ (r * 2 ^ N + d) / b ∧ (r * 2 ^ N + d) / b < 2 ^ N ∧ 0 ≤ (r * 2 ^ N + d) % b ∧ (r * 2 ^ N + d) % b < b ∧
      ((r * 2 ^ N + d) / b + 2 ^ N * Q) * b + (r * 2 ^ N + d) % b = d + 2 ^ N * (Q * b + r) := by
  have hp : (0 : Int) < 2 ^ N := Int.pow_pos (by omega)
  have h1 : 0 ≤ r * 2 ^ N := Int.mul_nonneg hr0 (Int.le_of_lt hp)
  have h2 : r * 2 ^ N ≤ (b - 1) * 2 ^ N := Int.mul_le_mul_of_nonneg_right (by omega) (Int.le_of_lt hp)
  rw [Int.sub_mul, Int.one_mul] at h2
  have h3 : b * 2 ^ N ≤ 2 ^ N * 2 ^ N := Int.mul_le_mul_of_nonneg_right (by omega) (Int.le_of_lt hp)
  have h4 := Int.mul_ediv_add_emod (r * 2 ^ N + d) b
  refine ⟨by omega, by rw [Int.pow_add]; omega, Int.ediv_nonneg (by omega) (by omega), Int.ediv_lt_of_lt_mul hb (by have := Int.mul_comm b (2 ^ N); omega), Int.emod_nonneg _ (by omega), Int.emod_lt_of_pos _ hb, ?_⟩
  rw [Int.add_mul, Int.mul_add, Int.mul_assoc, Int.mul_comm _ b]
  generalize (r * 2 ^ N + d) / b = q at *
  generalize (r * 2 ^ N + d) % b = m at *
  rw [Int.mul_comm r] at h4
  omega
theorem div_end {Q b r a : Int} (hb : 0 < b) (hr0 : 0 ≤ r) (hr : r < b) (h : Q * b + r = a) : Q = a / b ∧ r = a % b := by
  subst h
  constructor
  · rw [Int.add_comm, Int.add_mul_ediv_right _ _ (by omega), Int.ediv_eq_zero_of_lt hr0 hr]; omega
  · rw [Int.add_comm, Int.add_mul_emod_self_right, Int.emod_eq_of_lt hr0 hr]
end

/-! part D7 -/
section
open PySem PySem.W PyProof.Rows PySem.Calls
set_option maxRecDepth 100000
variable {W : Wd} {n : Nat}
theorem F7 : FF (scAt 7) ["a", "b", "q", "r"] ["ZeroDivisionError", "int_divmod", "_divmod_pos"] := ⟨by decide +kernel, by decide +kernel, by decide +kernel⟩
theorem K7 : FnOk "int_divmod" (parAt 7) (bodyAt 7) (scAt 7) ["a", "b"] where
  nodup := by rw [F7.nm]; decide +kernel
  plain := by rw [F7.nm]; decide +kernel
  first := by rw [F7.nm]; rfl
  kind := by rfl
  co := by rfl
  gen := by rfl
  kinds := by rw [F7.nm]; decide +kernel
  cellk := by decide +kernel
  bind := fun pm cd doc xs h => by obtain ⟨a, b, rfl⟩ := len_2 h; rfl
theorem idm_pos {a b : Int} {r : V} (D : DefAt W "int_divmod" (parAt 7) (bodyAt 7) (scAt 7)) (ha : 0 ≤ a) (hb : 0 < b) (c : CallOk W n "_divmod_pos" [.int a, .int b] (.val r)) : CallOk W (n + 1) "int_divmod" [.int a, .int b] (.val r) := by
  refine CallOk.of D K7 rfl ?_
  have F := F7
  have F' := F.fc
  rw [F.nm]
  show HS W n (scAt 7) [.imm (.int a), .imm (.int b), .unb, .unb] (bodyAt 7) _
  refine' HS.last (HT.ifS ?t1 ?a1 ?b1)
  case t1 => tm_at "b"
  case a1 => intro e; have := of_decide_eq_true e; omega
  case b1 =>
  intro _
  refine' HS.last (HT.ifS ?t2 ?a2 ?b2)
  case t2 => tm_at "b"
  case a2 => intro e; have := of_decide_eq_true e; omega
  case b2 =>
  intro _
  refine' HS.last (HT.ifS ?t3 ?a3 ?b3)
  case t3 => tm_at "b"
  case a3 => intro e; have := of_decide_eq_true e; omega
  case b3 =>
  intro _
  refine' HS.ret ?hret ?hpost
  case hret => tm_at "x"
  case hpost => exact rfl
theorem idm_nega {a b q r : Int} (D : DefAt W "int_divmod" (parAt 7) (bodyAt 7) (scAt 7)) (ha : a < 0) (hb : 0 < b) (c : CallOk W n "int_divmod" [.int (Builtin.bitNot a), .int b] (.val (.tuple [.int q, .int r]))) :
    CallOk W (n + 1) "int_divmod" [.int a, .int b] (.val (.tuple [.int (Builtin.bitNot q), .int (b + Builtin.bitNot r)])) := by
  refine CallOk.of D K7 rfl ?_
  have F := F7
  have F' := F.fc
  rw [F.nm]
  show HS W n (scAt 7) [.imm (.int a), .imm (.int b), .unb, .unb] (bodyAt 7) _
  refine' HS.last (HT.ifS ?t1 ?a1 ?b1)
  case t1 => tm_at "b"
  case a1 => intro e; have := of_decide_eq_true e; omega
  case b1 =>
  intro _
  refine' HS.last (HT.ifS ?t2 ?a2 ?b2)
  case t2 => tm_at "b"
  case a2 => intro e; have := of_decide_eq_true e; omega
  case b2 =>
  intro _
  refine' HS.last (HT.ifS ?t3 ?a3 ?b3)
  case t3 => tm_at "b"
  case b3 => intro e; have := of_decide_eq_false e; omega
  case a3 =>
  intro _
  refine' HS.unT F ?e5 ?p5 ?n5
  case e5 => tm_at "x"
  case p5 => tm_at "puts"
  case n5 =>
  refine' HS.ret ?hret ?hpost
  case hret => tm_at "x"
  case hpost => exact rfl
theorem idm_negb {a b q r : Int} (D : DefAt W "int_divmod" (parAt 7) (bodyAt 7) (scAt 7)) (hb : b < 0) (c : CallOk W n "int_divmod" [.int (-a), .int (-b)] (.val (.tuple [.int q, .int r]))) :
    CallOk W (n + 1) "int_divmod" [.int a, .int b] (.val (.tuple [.int q, .int (-r)])) := by
  refine CallOk.of D K7 rfl ?_
  have F := F7
  have F' := F.fc
  rw [F.nm]
  show HS W n (scAt 7) [.imm (.int a), .imm (.int b), .unb, .unb] (bodyAt 7) _
  refine' HS.last (HT.ifS ?t1 ?a1 ?b1)
  case t1 => tm_at "b"
  case a1 => intro e; have := of_decide_eq_true e; omega
  case b1 =>
  intro _
  refine' HS.last (HT.ifS ?t2 ?a2 ?b2)
  case t2 => tm_at "b"
  case b2 => intro e; have := of_decide_eq_false e; omega
  case a2 =>
  intro _
  refine' HS.unT F ?e5 ?p5 ?n5
  case e5 => tm_at "x"
  case p5 => tm_at "puts"
  case n5 =>
  refine' HS.ret ?hret ?hpost
  case hret => tm_at "x"
  case hpost => exact rfl
theorem nb_facts {a : Int} (h : ¬ 0 ≤ a) : a < 0 ∧ 0 ≤ Builtin.bitNot a ∧ (Builtin.bitNot a).natAbs ≤ a.natAbs := by unfold Builtin.bitNot; omega
theorem nab_pos {b : Int} (hb : b ≠ 0) : 0 < (b.natAbs : Int) := by omega
theorem nab_eq {b : Int} : (0 < b → (b.natAbs : Int) = b) ∧ (¬ 0 < b → (b.natAbs : Int) = -b) := by omega
theorem nb_end {a k q m : Int} (h0 : k * q + m = -a - 1) (h1 : 0 ≤ m) (h2 : m < k) : 0 ≤ k + (-m - 1) ∧ k + (-m - 1) < k ∧ (-q - 1) * k + (k + (-m - 1)) = a := ⟨by omega, by omega, by rw [Int.sub_mul, Int.neg_mul, Int.mul_comm q]; omega⟩
theorem neg_lt {b : Int} (hb : b ≠ 0) (h : ¬ 0 < b) : b < 0 := by omega
theorem fmod_neg {a b : Int} (e1 : (-a).fdiv (-b) = a.fdiv b) : -((-a).fmod (-b)) = a.fmod b := by rw [Int.fmod_def, Int.fmod_def, e1, Int.neg_mul]; omega
theorem int_divmod_ok {a b : Int} (D : DefAt W "int_divmod" (parAt 7) (bodyAt 7) (scAt 7)) (hb : b ≠ 0)
    (c : ∀ a' : Int, 0 ≤ a' → a'.natAbs ≤ a.natAbs → CallOk W n "_divmod_pos" [.int a', .int (b.natAbs : Int)] (.val (.tuple [.int (a' / (b.natAbs : Int)), .int (a' % (b.natAbs : Int))]))) :
    CallOk W (n + 3) "int_divmod" [.int a, .int b] (.val (.tuple [.int (a.fdiv b), .int (a.fmod b)])) := by
  have pos : ∀ a' : Int, a'.natAbs = a.natAbs → CallOk W (n + 2) "int_divmod" [.int a', .int (b.natAbs : Int)] (.val (.tuple [.int (a'.fdiv (b.natAbs : Int)), .int (a'.fmod (b.natAbs : Int))])) := by
    intro a' he
    have hp := nab_pos hb
    rw [Int.fdiv_eq_ediv_of_nonneg _ (Int.le_of_lt hp), Int.fmod_eq_emod_of_nonneg _ (Int.le_of_lt hp)]
    by_cases h : 0 ≤ a'
    · exact (idm_pos D h hp (c a' h (Nat.le_of_eq he))).mono (Nat.le_succ _)
    · have := idm_nega (n := n + 1) D (nb_facts h).1 hp (idm_pos D (nb_facts h).2.1 hp (c (Builtin.bitNot a') (nb_facts h).2.1 (Nat.le_trans (nb_facts h).2.2 (Nat.le_of_eq he))))
      generalize (b.natAbs : Int) = k at *
      have h0 := Int.mul_ediv_add_emod (Builtin.bitNot a') k
      have h1 := Int.emod_nonneg (Builtin.bitNot a') (Int.ne_of_gt hp)
      have h2 := Int.emod_lt_of_pos (Builtin.bitNot a') hp
      generalize hq : Builtin.bitNot a' / k = q at *
      generalize hm : Builtin.bitNot a' % k = m at *
      have hn : Builtin.bitNot a' = -a' - 1 := rfl
      rw [hn] at h0
      obtain ⟨e1, e2⟩ := div_end (Q := -q - 1) (r := k + (-m - 1)) (a := a') hp (nb_end h0 h1 h2).1 (nb_end h0 h1 h2).2.1 (nb_end h0 h1 h2).2.2
      have e1 : Builtin.bitNot q = a' / k := e1
      have e2 : k + Builtin.bitNot m = a' % k := e2
      rw [e1, e2] at this
      exact this
  by_cases h : 0 < b
  · have e : (b.natAbs : Int) = b := nab_eq.1 h
    have := pos a rfl
    rw [e] at this
    exact this.mono (Nat.le_succ _)
  · have e : (b.natAbs : Int) = -b := nab_eq.2 h
    have := pos (-a) (Int.natAbs_neg a)
    rw [e] at this
    have := idm_negb D (neg_lt hb h) this
    have e1 : (-a).fdiv (-b) = a.fdiv b := Int.neg_fdiv_neg ..
    have e2 : -((-a).fmod (-b)) = a.fmod b := fmod_neg e1
    rw [e1, e2] at this
    exact this
end

/-! part G27 -/
section
open PySem PySem.W PyProof.Rows PySem.Calls
set_option maxRecDepth 100000
variable {W : Wd} {n : Nat}
theorem HT.tryOk {sc : Scope} {ρ ρ' : List Bd} {body : List Stmt} {h0 : ExceptHandler} {hs : List ExceptHandler} {pos : Pos} (h : HS W n sc ρ body (fun o r => o = .next ∧ r = ρ')) : HT W n sc ρ (.Try body (h0 :: hs) [] [] pos) (fun o r => o = .next ∧ r = ρ') := by
  intro env A P f s Q E st hQ
  refine wpAny_Try_except (h env A P f s _ _ st fun fl o ρ'' f' h' tk g st' fo p => ?_)
  obtain ⟨rfl, rfl⟩ := p
  cases fl with
  | next => exact wpAny_execs_nil (hQ .next .next _ f' h' tk g st' fo ⟨rfl, rfl⟩)
  | _ => exact fo.elim
theorem F27 : FF (scAt 27) ["above", "below", "told", "fault"] ["int_divmod", "ZeroDivisionError", "str", "isinstance", "tuple"] := ⟨by decide +kernel, by decide +kernel, by decide +kernel⟩
theorem K27 : FnOk "_law_split" (parAt 27) (bodyAt 27) (scAt 27) ["above", "below"] where
  nodup := by rw [F27.nm]; decide +kernel
  plain := by rw [F27.nm]; decide +kernel
  first := by rw [F27.nm]; rfl
  kind := by rfl
  co := by rfl
  gen := by rfl
  kinds := by rw [F27.nm]; decide +kernel
  cellk := by decide +kernel
  bind := fun pm cd doc xs h => by obtain ⟨a, b, rfl⟩ := len_2 h; rfl
theorem law_split_ok {a b q r : Int} (hq : Builtin.Int.intBits q ≤ 1900) (hr : Builtin.Int.intBits r ≤ 1900) (D : DefAt W "_law_split" (parAt 27) (bodyAt 27) (scAt 27)) (hst : Bi W "str" (.type "str")) (hin : Bi W "isinstance" (.builtin "isinstance")) (htu : Bi W "tuple" (.type "tuple"))
    (c : CallOk W n "int_divmod" [.int a, .int b] (.val (.tuple [.int q, .int r]))) : CallOk W (n + 1) "_law_split" [.int a, .int b] (.val (.list ([q, r].map decV))) := by
  refine CallOk.of D K27 rfl ?_
  have F := F27
  have F' := F.fc
  rw [F.nm]
  show HS W n (scAt 27) [.imm (.int a), .imm (.int b), .unb, .unb] (bodyAt 27) _
  refine' HS.step (ρ' := [.imm (.int a), .imm (.int b), .imm (.tuple [.int q, .int r]), .unb]) (HT.tryOk ?t1) ?n1
  case t1 =>
    refine' HS.asg F (v := .tuple [.int q, .int r]) ?e1 ?p1 ?m1
    case e1 => tm_at "x"
    case p1 => tm_at "put"
    case m1 => exact HS.nil ⟨rfl, rfl⟩
  case n1 =>
  refine' HS.ret (v := .list ([q, r].map decV)) ?hret ?hpost
  case hpost => exact rfl
  case hret =>
    refine' HE.iteV (c := true) (v := .list ([q, r].map decV)) (w := .none) ?t2 ?a2 ?b2 rfl
    case b2 => intro h; cases h
    case t2 =>
      refine' HB.val (v := .bool true) ?vx Op.tB ?vh
      case vh => intro _ _; rfl
      case vx => tm_at "x"
    case a2 =>
      intro _
      refine CompR.hv ?_
      show CompR W n (scAt 27) _ _ _ _ _ (([q, r].filter fun _ => true).map decV)
      refine' CompR.mapA (as := [q, r]) (fv := V.int) (caps := [none]) 0 (fun _ => true) decV ?hi ?ok ?him (fun b => [b]) ?hR ?hlen ?ht ?he ?how ?hx ?hfr ?hs
      case hR => intro _; rfl
      case hi => exact HI.v (v := .tuple [.int q, .int r]) (by tm_at "x") OpI.tuple
      case ok => tm_at "ok"
      case him => tm_at "him"
      case hlen => exact Nat.le_of_ble_eq_true rfl
      case ht => intro v _; exact HTests.nil
      case he =>
        intro z hz _
        have hzb : Builtin.Int.intBits z ≤ 1900 := by
          simp only [List.mem_cons, List.not_mem_nil, or_false] at hz
          rcases hz with rfl | rfl <;> assumption
        refine HE.fc (nms := ["part"]) (gl := ["str"]) (by tm_at "fc") fun G => ?_
        tm_at "x"
        exact hzb
      case how => tm_at "how"
      case hx => decide +kernel
      case hfr => decide +kernel
      case hs => intro _ _; rfl
theorem law_split_zero {a : Int} (D : DefAt W "_law_split" (parAt 27) (bodyAt 27) (scAt 27)) (Dd : DefAt W "int_divmod" (parAt 7) (bodyAt 7) (scAt 7)) (hst : Bi W "str" (.type "str")) (hz : Bi W "ZeroDivisionError" (.type "ZeroDivisionError")) :
    CallS W (n + 2) "_law_split" [.int a, .int 0] "none" := by
  have F := F27
  have F' := F.fc
  have G := F7
  have G' := G.fc
  refine' CallS.of (vs := [.int a, .int 0]) D K27 rfl Dd K7 rfl ?hg ?hargs ?ht ?hgx hz ?hgz hz ?hgs hst ?hkf ?hfv ?he ?hsw
  case hg => decide +kernel
  case hgx => decide +kernel
  case hgz => decide +kernel
  case hgs => decide +kernel
  case hkf => decide +kernel
  case hfv => decide +kernel
  case he => intro _; rfl
  case hsw => intro _ _; rfl
  case hargs =>
    rw [F.nm]
    show HA W (n + 1) (scAt 27) [.imm (.int a), .imm (.int 0), .unb, .unb] _ _ _
    tm_at "ha"
  case ht =>
    rw [G.nm]
    show HB W n (scAt 7) [.imm (.int a), .imm (.int 0), .unb, .unb] _ _
    refine HB.cast (r := ((0 : Int) == 0)) ?_ rfl
    tm_at "b"
end

/-! part G28 -/
section
open PySem PySem.W PyProof.Rows PySem.Calls
set_option maxRecDepth 100000
variable {W : Wd} {n : Nat}
theorem F28 : FF (scAt 28) ["quotient", "rest", "base"] ["str"] := ⟨by decide +kernel, by decide +kernel, by decide +kernel⟩
theorem K28 : FnOk "_law_due" (parAt 28) (bodyAt 28) (scAt 28) ["quotient", "rest", "base"] where
  nodup := by rw [F28.nm]; decide +kernel
  plain := by rw [F28.nm]; decide +kernel
  first := by rw [F28.nm]; rfl
  kind := by rfl
  co := by rfl
  gen := by rfl
  kinds := by rw [F28.nm]; decide +kernel
  cellk := by decide +kernel
  bind := fun pm cd doc xs h => by obtain ⟨a, b, c, rfl⟩ := len_3 h; rfl
noncomputable def dueV (q r b : Int) : V := if b != 0 then .list ([q, r].map decV) else .str "none"
theorem law_due_ok {q r b : Int} (hq : Builtin.Int.intBits q ≤ 1900) (hr : Builtin.Int.intBits r ≤ 1900) (D : DefAt W "_law_due" (parAt 28) (bodyAt 28) (scAt 28)) (hst : Bi W "str" (.type "str")) :
    CallOk W (n + 1) "_law_due" [.int q, .int r, .int b] (.val (dueV q r b)) := by
  refine CallOk.of D K28 rfl ?_
  have F := F28
  have F' := F.fc
  rw [F.nm]
  show HS W n (scAt 28) [.imm (.int q), .imm (.int r), .imm (.int b)] (bodyAt 28) _
  refine' HS.ret (v := dueV q r b) ?hret ?hpost
  case hpost => exact rfl
  case hret =>
    refine' HE.iteV (c := (b != 0)) (v := .list [decV q, decV r]) (w := .str "none") ?t2 ?a2 ?b2 ?u2
    case t2 => tm_at "b"
    case a2 =>
      intro _
      tm_at "x"
      · exact hr
      · exact hq
    case b2 => intro _; tm_at "x"
    case u2 => unfold dueV; split <;> rfl
end

/-! part M30 -/
section
open PySem PySem.W PyProof.Rows PySem.Calls
variable {W : Wd} {n : Nat} {sc : Scope} {ρ : List Bd} {Post : Out → List Bd → Prop} {nms gl : List Str}
/-! a statement or an expression behind a name: long lists of ints make the elaborator's work double with each of them -/
theorem HS.asgX {st : Stmt} {x : Str} {xp pos : Pos} {e : Expr} {rest : List Stmt} {v : V} {ρ' : List Bd} {i : Nat} (F : FF sc nms gl) (hst : st = .Assign [.Name x xp] e pos) (h : ∀ E : Expr, E = e → HE W n sc ρ E (.val v)) (hp : Put nms ρ x (.imm v) ρ' i) (hn : HS W n sc ρ' rest Post)
    (hsw : ∀ env, env.scope = sc → swapsWith e (some (.Name x xp)) pos.line env = pure false := by intro _ _; rfl) : HS W n sc ρ (st :: rest) Post := by
  subst hst; exact HS.asg F (h e rfl) hp hn hsw
theorem HE.subX {E value slice : Expr} {pos : Pos} {v i : V} {r : RT} (hE : E = .Subscript value slice pos) (h : ∀ o : Expr, o = value → HE W n sc ρ o (.val v)) (h' : HE W n sc ρ slice (.val i)) (hv : hasItems v = true) (ho : Op W n (op2 getItem) [v, i] r)
    (hsl : ∀ o i, ∃ ops, subscripted slice false o i = operate ops (getItem o i) := by exact fun _ _ => ⟨_, rfl⟩) : HE W n sc ρ E r := by
  subst hE; exact HE.sub' (h _ rfl) h' hv ho hsl
noncomputable def cE (q : Int × Nat × Pos) : Expr := .Constant (.int q.1) q.2.1 q.2.2
theorem HA.ints {pos : Pos} : ∀ qs : List (Int × Nat × Pos), HA W n sc ρ pos (qs.map cE) (qs.map fun q => .int q.1)
  | [] => HA.nil
  | q :: r => HA.cons HE.int (HA.ints r)
theorem HE.intsX {E : Expr} {pos : Pos} {qs : List (Int × Nat × Pos)} (h : E = .List (qs.map cE) pos) (hl : qs.length ≤ 1000) : HE W n sc ρ E (.val (.list (qs.map fun q => .int q.1))) := by
  subst h
  exact HE.list' (HA.ints qs) (by rw [List.length_map]; exact hl)
end

/-! part G29a -/
section
open PySem PySem.W PyProof.Rows PySem.Calls
set_option maxRecDepth 100000
set_option maxHeartbeats 2000000
variable {W : Wd} {n : Nat}
theorem F29 : FF (scAt 29) ["script", "cells", "names", "numbers", "start", "places", "steps", "table", "step", "state", "ways", "holes", "above", "base", "rest", "sums", "whole", "spots", "one", "lifted", "high", "pair", "told", "product", "powers"] ["enumerate", "_law_names", "range", "_law_onward", "sorted", "_law_straight", "pretty_flags", "_law_alternant", "_law_sums", "_law_split", "_law_due", "_law_jacobi", "len", "_law_spell", "_levenshtein_distance", "sum"] := ⟨by decide +kernel, by decide +kernel, by decide +kernel⟩
theorem K29 : FnOk "law" (parAt 29) (bodyAt 29) (scAt 29) ["script"] where
  nodup := by rw [F29.nm]; decide +kernel
  plain := by rw [F29.nm]; decide +kernel
  first := by rw [F29.nm]; rfl
  kind := by rfl
  co := by rfl
  gen := by rfl
  kinds := by rw [F29.nm]; decide +kernel
  cellk := by decide +kernel
  bind := fun pm cd doc xs h => by obtain ⟨a, rfl⟩ := len_1 h; rfl
noncomputable def sl60 (ns : List Int) (k : Nat) : List Int := (sliceRange (sliceBounds (some (k : Int)) (some 60) (some 8) ns.length).1 (sliceBounds (some (k : Int)) (some 60) (some 8) ns.length).2.1 (sliceBounds (some (k : Int)) (some 60) (some 8) ns.length).2.2).filterMap (ns[·]?)
theorem fm_map (ns : List Int) (l : List Nat) : l.filterMap ((ns.map V.int)[·]?) = (l.filterMap (ns[·]?)).map V.int := by
  induction l with
  | nil => rfl
  | cons a l ih =>
    rw [List.filterMap_cons, List.filterMap_cons, List.getElem?_map]
    cases ns[a]? with
    | none => exact ih
    | some v => rw [Option.map_some, List.map_cons, ih]
noncomputable def cells0 (ds : List Int) (ns : List Int) : List Int := ds.zipIdx.map fun p => (p.1 + (sl60 ns p.2).sum).fmod (10 ^ (9 : Int).toNat)
theorem cells0_len (ds ns : List Int) : (cells0 ds ns).length = ds.length := by simp [cells0]
theorem cells0_nn (ds ns : List Int) : ∀ c ∈ cells0 ds ns, 0 ≤ c ∧ c < 10 ^ 9 := by
  intro c hc
  obtain ⟨p, _, rfl⟩ := List.mem_map.mp hc
  exact ⟨Int.fmod_nonneg_of_pos _ (by decide), Int.fmod_lt_of_pos _ (by decide)⟩
/-- the law's statements -/
noncomputable def sA (j : Nat) : Stmt := match (bodyAt 29)[j]? with | some s => s | none => .Pass default
noncomputable def numK (cl : List Int) (k : Int) : Int := 7 * ((cl.getD k.toNat 0).fmod 5 - 2) + 2 * k.fmod 2
noncomputable def startL : List Int := [7, 11, 13, 14, 19, 21, 22, 25, 26, 28]
noncomputable def plcZ (st : Int) : List Int := (rangeInts 0 1 5).filter fun k => bitI st k != 0
theorem r5_ok : ∀ k ∈ rangeInts 0 1 5, 0 ≤ k := by decide +kernel
theorem r3_ok : ∀ k ∈ rangeInts 0 1 3, 0 ≤ k ∧ k < 1000000 ∧ k.toNat < 8 := by decide +kernel
theorem fmod10 (c : Int) : 0 ≤ c.fmod 10 ∧ c.fmod 10 < 1000000 ∧ (c.fmod 10).toNat < 10 := by rw [Int.fmod_eq_emod_of_nonneg _ (by decide)]; omega
theorem itemI {l : List Int} {i : Nat} (h : i < l.length) : (l.map V.int)[i]? = some (.int (l.getD i 0)) := at_getD h
theorem blk1a {ns : List Int} {Post : Out → List Bd → Prop} (hen : Bi W "enumerate" (.type "enumerate")) (hsu : Bi W "sum" (.builtin "sum")) (hns : ns.length ≤ 63)
    (rest : ∀ cl : List Int, cl.length = 8 → (∀ c ∈ cl, 0 ≤ c ∧ c < 10 ^ 9) → HS W n (scAt 29) [.imm (.list (ns.map .int)), .imm (.list (cl.map .int)), .unb, .unb, .unb, .unb, .unb, .unb, .unb, .unb, .unb, .unb, .unb, .unb, .unb, .unb, .unb, .unb, .unb, .unb, .unb, .unb, .unb, .unb, .unb] [sA 1, sA 2, sA 3, sA 4, sA 5, sA 6] Post) :
    HS W n (scAt 29) [.imm (.list (ns.map .int)), .unb, .unb, .unb, .unb, .unb, .unb, .unb, .unb, .unb, .unb, .unb, .unb, .unb, .unb, .unb, .unb, .unb, .unb, .unb, .unb, .unb, .unb, .unb, .unb] [sA 0, sA 1, sA 2, sA 3, sA 4, sA 5, sA 6] Post := by
  have F := F29
  have F' := F.fc
  refine' HS.asg F (v := .list ((cells0 [8, 1, 11, 1, 1, 0, 50, 1] ns).map .int)) ?e1 ?p1 ?n1 ?o1
  case p1 => tm_at "put"
  case o1 => intro env e; cases env; cases e; rfl
  case n1 => exact rest _ (cells0_len _ _) (cells0_nn _ _)
  case e1 =>
    refine CompR.hv ?_
    refine CompR.cast (out := (([8, 1, 11, 1, 1, 0, 50, 1] : List Int).zipIdx.filter fun _ => true).map fun p => V.int ((p.1 + (sl60 ns p.2).sum).fmod (10 ^ (9 : Int).toNat))) ?_ (by unfold cells0; rw [List.filter_eq_self.mpr (fun _ _ => rfl), List.map_map]; rfl)
    refine' CompR.mapT (as := ([8, 1, 11, 1, 1, 0, 50, 1] : List Int).zipIdx) (fa := fun p => V.int (p.2 : Int)) (fb := fun p => V.int p.1) (caps := [none, none, some 0]) 0 1 (fun _ => true) (fun p => V.int ((p.1 + (sl60 ns p.2).sum).fmod (10 ^ (9 : Int).toNat)))
      ?hi ?ok ?him ?hne (fun a b => [a, b, .imm (.list (ns.map .int))]) ?hR ?hlen ?ht ?he ?how ?hx ?hfr ?how' ?hx' ?hfr' ?hs
    case hi =>
      refine' HIg.enum (xs := ([8, 1, 11, 1, 1, 0, 50, 1] : List Int).map V.int) F' ?m1 hen ?a1 ?h1 ?h2
      case h1 => intro _; rfl
      case h2 => intro _; rfl
      case m1 => tm_at "mem"
      case a1 =>
        show HE W n (scAt 29) _ _ (.val (.list [.int 8, .int 1, .int 11, .int 1, .int 1, .int 0, .int 50, .int 1]))
        tm_at "x"
    case ok => tm_at "ok"
    case him => tm_at "him"
    case hne => decide
    case hR => intro _ _; rfl
    case hlen => decide
    case ht => intro _ _; exact HTests.nil
    case how => tm_at "how"
    case how' => tm_at "how"
    case hx => decide +kernel
    case hx' => decide +kernel
    case hfr => decide +kernel
    case hfr' => decide +kernel
    case hs => intro _ _; rfl
    case he =>
      intro p hp _
      refine HE.fc (nms := ["k", "n", "script"]) (gl := ["sum"]) (by tm_at "fc") fun G => ?_
      refine' HE.bin (HE.bin ?x1 (HE.bi G ?m1 hsu (HA.cons (HE.castV ?x2 ?x3) HA.nil ?x4) OpC.sumI ?he1 ?hpl1) Op.add) ?x5 (Op.mod ?x6)
      case x4 => intro _; rfl
      case he1 => intro _; rfl
      case hpl1 => intro _; rfl
      case m1 => tm_at "mem"
      case x1 => tm_at "x"
      case x2 =>
        tm_at "x"
        · decide
        · rw [List.length_map]; omega
      case x3 =>
        rw [List.length_map, fm_map]
        rfl
      case x5 =>
        tm_at "x"
        · decide
        · rw [show Builtin.Int.intBits 10 = 4 from rfl]; decide
      case x6 => decide
theorem cell_at {cl : List Int} (h : cl.length = 8) (k : Nat) (hk : k < 8) : (cl.map V.int)[k]? = some (.int (cl.getD k 0)) := at_getD (by omega)
theorem blk1 {SV : V} {cl : List Int} {Post : Out → List Bd → Prop} (hr : Bi W "range" (.type "range")) (hcl : cl.length = 8) (cN : CallOk W n "_law_names" [] (.val (.list (flagN.map .str))))
    (hP : ∀ st : Int, st = startL.getD ((cl.getD 3 0).fmod 10).toNat 0 → Post .next [.imm SV, .imm (.list (cl.map .int)), .imm (.list (flagN.map .str)), .imm (.list (((rangeInts 0 1 3).map (numK cl)).map .int)), .imm (.int st), .imm (.list ((plcZ st).map .int)), .imm (.list ([1 + (cl.getD 4 0).fmod 3, 1 + (cl.getD 5 0).fmod 3].map .int)), .imm (.dict (intsD [(st, 1)])), .unb, .unb, .unb, .unb, .unb, .unb, .unb, .unb, .unb, .unb, .unb, .unb, .unb, .unb, .unb, .unb, .unb]) :
    HS W n (scAt 29) [.imm SV, .imm (.list (cl.map .int)), .unb, .unb, .unb, .unb, .unb, .unb, .unb, .unb, .unb, .unb, .unb, .unb, .unb, .unb, .unb, .unb, .unb, .unb, .unb, .unb, .unb, .unb, .unb] [sA 1, sA 2, sA 3, sA 4, sA 5, sA 6] Post := by
  have F := F29
  have F' := F.fc
  refine' HS.asg F (v := .list (flagN.map .str)) ?e2 ?p2 ?n2
  case e2 => tm_at "x"
  case p2 => tm_at "put"
  case n2 =>
  refine' HS.asgComp F (out := ((rangeInts 0 1 3).map (numK cl)).map .int) ?e3 ?p3 ?n3 ?o3
  case p3 => tm_at "put"
  case o3 => rfl
  case e3 =>
    refine CompR.cast (out := ((rangeInts 0 1 3).filter fun _ => true).map fun k => V.int (numK cl k)) ?_ (by rw [List.filter_eq_self.mpr (fun _ _ => rfl), List.map_map]; rfl)
    refine' CompR.mapA (as := rangeInts 0 1 3) (fv := V.int) (caps := [none, some 1]) 0 (fun _ => true) (fun k => V.int (numK cl k)) ?hi ?ok ?him (fun b => [b, .imm (.list (cl.map .int))]) ?hR ?hlen ?ht ?he ?how ?hx ?hfr ?hs
    case hR => intro _; rfl
    case hi =>
      refine' HI.v ?hix (OpI.range (a := 0) (b := 3) (c := 1) (k := 3) ?hia ?hib)
      case hix => tm_at "x"
      case hia => decide +kernel
      case hib => decide +kernel
    case ok => tm_at "ok"
    case him => tm_at "him"
    case hlen => decide
    case ht => intro _ _; exact HTests.nil
    case how => tm_at "how"
    case hx => decide +kernel
    case hfr => decide +kernel
    case hs => intro _ _; rfl
    case he =>
      intro k hk _
      have hk' := r3_ok k hk
      refine HE.fc (nms := ["k", "cells"]) (gl := []) (by tm_at "fc") fun G => ?_
      unfold numK
      refine' HE.bin (HE.bin ?x1 (HE.bin (HE.bin ?x2 ?x3 (Op.mod (by decide))) ?x4 Op.sub) (Op.mul (IntMulOk.of_left (by decide)))) (HE.bin ?x5 ?x6 (Op.mul (IntMulOk.of_left (by decide)))) Op.add
      case x1 => tm_at "x"
      case x2 =>
        refine' HE.sub' (v := .list (cl.map .int)) (i := .int k) ?l3 ?r3 ?v3 (Op.itemL hk'.1 hk'.2.1 (cell_at hcl k.toNat hk'.2.2)) ?hsl
        case hsl => exact fun _ _ => ⟨_, rfl⟩
        case l3 => tm_at "x"
        case r3 => tm_at "x"
        case v3 => rfl
      case x3 => tm_at "x"
      case x4 => tm_at "x"
      case x5 => tm_at "x"
      case x6 => tm_at "x"; decide
  case n3 =>
  have h10 := fmod10 (cl.getD 3 0)
  have hit := itemI (l := startL) h10.2.2
  have hP' := hP _ rfl
  generalize startL.getD ((cl.getD 3 0).fmod 10).toNat 0 = st at hP' hit
  generalize hx : (cl.getD 3 0).fmod 10 = x at h10 hit
  generalize h3 : sA 3 = s3
  refine' HS.asgX F (v := .int st) h3.symm ?e4 ?p4 ?n4
  case p4 => tm_at "put"
  case e4 =>
    intro E hE
    refine' HE.subX (v := .list (startL.map .int)) (i := .int x) hE ?l4 ?r4 ?v4 (Op.itemL h10.1 h10.2.1 hit) ?hsl4
    case hsl4 => exact fun _ _ => ⟨_, rfl⟩
    case l4 =>
      intro o ho
      exact HE.castV (HE.intsX (qs := [(7, _, _), (11, _, _), (13, _, _), (14, _, _), (19, _, _), (21, _, _), (22, _, _), (25, _, _), (26, _, _), (28, _, _)]) ho (Nat.le_of_ble_eq_true rfl)) rfl
    case r4 =>
      rw [← hx]
      refine' HE.bin ?x7 ?x8 (Op.mod (by decide))
      case x7 =>
        refine' HE.sub' (v := .list (cl.map .int)) (i := .int 3) ?l5 ?r5 ?v5 (Op.itemL (by decide) (by decide) (cell_at hcl 3 (by decide))) ?hsl5
        case hsl5 => exact fun _ _ => ⟨_, rfl⟩
        case l5 => tm_at "x"
        case r5 => tm_at "x"
        case v5 => rfl
      case x8 => tm_at "x"
    case v4 => rfl
  case n4 =>
  refine' HS.asg F (v := .list ((plcZ st).map .int)) ?e6 ?p6 ?n6 (by intro env e; cases env; cases e; rfl)
  case p6 => tm_at "put"
  case e6 =>
    refine CompR.hv ?_
    unfold plcZ
    refine' CompR.mapA (as := rangeInts 0 1 5) (fv := V.int) (caps := [none, some 4]) 0 (fun k => bitI st k != 0) V.int ?hi6 ?ok6 ?him6 (fun b => [b, .imm (.int st)]) ?hR6 ?hlen6 ?ht6 ?he6 ?how6 ?hx6 ?hfr6 ?hs6
    case hR6 => intro _; rfl
    case hi6 =>
      refine' HI.v ?hix6 (OpI.range (a := 0) (b := 5) (c := 1) (k := 5) ?hia6 ?hib6)
      case hix6 => tm_at "x"
      case hia6 => decide +kernel
      case hib6 => decide +kernel
    case ok6 => tm_at "ok"
    case him6 => tm_at "him"
    case hlen6 => decide
    case ht6 =>
      intro k hk
      have hk' := r5_ok k hk
      refine HTests.fc (nms := ["k", "start"]) (gl := []) (by tm_at "fc") fun G => HTests.one ?_
      unfold bitI
      tm_at "b"
      exact hk'
    case how6 => tm_at "how"
    case hx6 => decide +kernel
    case hfr6 => decide +kernel
    case hs6 => intro _ _; rfl
    case he6 =>
      intro k hk _
      refine HE.fc (nms := ["k", "start"]) (gl := []) (by tm_at "fc") fun G => ?_
      tm_at "x"
  case n6 =>
  refine' HS.asg F (v := .list ([1 + (cl.getD 4 0).fmod 3, 1 + (cl.getD 5 0).fmod 3].map .int)) ?e7 ?p7 ?n7
  case p7 => tm_at "put"
  case e7 =>
    refine' HE.list' (vs := [.int (1 + (cl.getD 4 0).fmod 3), .int (1 + (cl.getD 5 0).fmod 3)]) (HA.cons (HE.bin ?y1 (HE.bin ?y2 ?y3 (Op.mod (by decide))) Op.add) (HA.cons (HE.bin ?y4 (HE.bin ?y5 ?y6 (Op.mod (by decide))) Op.add) HA.nil)) (Nat.le_of_ble_eq_true rfl)
    case y1 => tm_at "x"
    case y4 => tm_at "x"
    case y3 => tm_at "x"
    case y6 => tm_at "x"
    case y2 =>
      refine' HE.sub' (v := .list (cl.map .int)) (i := .int 4) ?l8 ?r8 ?v8 (Op.itemL (by decide) (by decide) (cell_at hcl 4 (by decide))) ?hsl8
      case hsl8 => exact fun _ _ => ⟨_, rfl⟩
      case l8 => tm_at "x"
      case r8 => tm_at "x"
      case v8 => rfl
    case y5 =>
      refine' HE.sub' (v := .list (cl.map .int)) (i := .int 5) ?l9 ?r9 ?v9 (Op.itemL (by decide) (by decide) (cell_at hcl 5 (by decide))) ?hsl9
      case hsl9 => exact fun _ _ => ⟨_, rfl⟩
      case l9 => tm_at "x"
      case r9 => tm_at "x"
      case v9 => rfl
  case n7 =>
  refine' HS.asg F (v := .dict (intsD [(st, 1)])) ?e10 ?p10 ?n10
  case p10 => tm_at "put"
  case e10 =>
    refine' HE.freezeD (HE.dict1 (v := .int 1) ?y7 ?y8)
    case y7 => tm_at "x"
    case y8 => tm_at "x"
  case n10 => exact HS.nil hP'
end

/-! part G29b -/
section
open PySem PySem.W PyProof.Rows PySem.Calls
set_option maxRecDepth 100000
set_option maxHeartbeats 2000000
variable {W : Wd} {n : Nat}
noncomputable def skZ (c : Int) : Int := ([0, 1, 3] : List Int).getD ((c.fdiv 4).fmod 3).toNat 0
theorem fmod3 (c : Int) : 0 ≤ c.fmod 3 ∧ c.fmod 3 < 1000000 ∧ (c.fmod 3).toNat < 3 := by rw [Int.fmod_eq_emod_of_nonneg _ (by decide)]; omega
noncomputable def tAt (st : Int) (t1 t2 : List (Int × Int)) : Nat → List (Int × Int)
  | 0 => [(st, 1)]
  | 1 => t1
  | _ => t2
theorem blk2 {SV NV : V} {cl pl : List Int} {st s0 s1 : Int} {t1 t2 : List (Int × Int)} {Post : Out → List Bd → Prop} (hcl : cl.length = 8)
    (c1 : CallOk W n "_law_onward" [.dict (intsD [(st, 1)]), .int s0, .list (flagN.map .str), .int (2 + (cl.getD 7 0).fmod 4), .int (skZ (cl.getD 7 0))] (.val (.dict (intsD t1))))
    (c2 : CallOk W n "_law_onward" [.dict (intsD t1), .int s1, .list (flagN.map .str), .int (2 + (cl.getD 7 0).fmod 4), .int (skZ (cl.getD 7 0))] (.val (.dict (intsD t2))))
    (hP : ∀ y, okB y → Post .next [.imm SV, .imm (.list (cl.map .int)), .imm (.list (flagN.map .str)), .imm NV, .imm (.int st), .imm (.list (pl.map .int)), .imm (.list ([s0, s1].map .int)), .imm (.dict (intsD t2)), y, .unb, .unb, .unb, .unb, .unb, .unb, .unb, .unb, .unb, .unb, .unb, .unb, .unb, .unb, .unb, .unb]) :
    HS W n (scAt 29) [.imm SV, .imm (.list (cl.map .int)), .imm (.list (flagN.map .str)), .imm NV, .imm (.int st), .imm (.list (pl.map .int)), .imm (.list ([s0, s1].map .int)), .imm (.dict (intsD [(st, 1)])), .unb, .unb, .unb, .unb, .unb, .unb, .unb, .unb, .unb, .unb, .unb, .unb, .unb, .unb, .unb, .unb, .unb] [sA 7] Post := by
  have F := F29
  have F' := F.fc
  let Inv : Nat → List Bd → Prop := fun i ρ => ∃ y, ρ = [.imm SV, .imm (.list (cl.map .int)), .imm (.list (flagN.map .str)), .imm NV, .imm (.int st), .imm (.list (pl.map .int)), .imm (.list ([s0, s1].map .int)), .imm (.dict (intsD (tAt st t1 t2 i))), y, .unb, .unb, .unb, .unb, .unb, .unb, .unb, .unb, .unb, .unb, .unb, .unb, .unb, .unb, .unb, .unb] ∧ okB y
  refine' HS.last (HT.for (vs := [s0, s1].map .int) Inv 8 ?hi ?h0 ?hturn ?hend ?hx ?hfr ?hs)
  case hi => exact HI.v (v := .list ([s0, s1].map .int)) (by tm_at "x") OpI.list
  case h0 => exact ⟨.unb, rfl, rfl, rfl⟩
  case hx => rw [F.nm]; rfl
  case hfr => decide +kernel
  case hs => intro _ _; rfl
  case hend =>
    rintro ρ' ⟨y, rfl, hy⟩
    exact HS.nil (hP y hy)
  case hturn =>
    rintro i v ρ' hv ⟨y, rfl, hy⟩
    obtain ⟨s, rfl, hc⟩ : ∃ s, v = .int s ∧ CallOk W n "_law_onward" [.dict (intsD (tAt st t1 t2 i)), .int s, .list (flagN.map .str), .int (2 + (cl.getD 7 0).fmod 4), .int (skZ (cl.getD 7 0))] (.val (.dict (intsD (tAt st t1 t2 (i + 1))))) := by
      match i, hv with
      | 0, hv => cases hv; exact ⟨_, rfl, c1⟩
      | 1, hv => cases hv; exact ⟨_, rfl, c2⟩
      | i + 2, hv => cases hv
    have h3 := fmod3 ((cl.getD 7 0).fdiv 4)
    have hit := itemI (l := [0, 1, 3]) h3.2.2
    have hw : skZ (cl.getD 7 0) = ([0, 1, 3] : List Int).getD (((cl.getD 7 0).fdiv 4).fmod 3).toNat 0 := rfl
    rw [← hw] at hit
    generalize skZ (cl.getD 7 0) = sk at hc hit
    generalize tAt st t1 t2 i = T at hc ⊢
    generalize hT' : tAt st t1 t2 (i + 1) = T' at hc ⊢
    show HS W n (scAt 29) [.imm SV, .imm (.list (cl.map .int)), .imm (.list (flagN.map .str)), .imm NV, .imm (.int st), .imm (.list (pl.map .int)), .imm (.list ([s0, s1].map .int)), .imm (.dict (intsD T)), .imm (.int s), .unb, .unb, .unb, .unb, .unb, .unb, .unb, .unb, .unb, .unb, .unb, .unb, .unb, .unb, .unb, .unb] (forOf (some (sA 7))).2.1 _
    refine' HS.asg F (v := .dict (intsD T')) ?e1 ?p1 ?n1
    case p1 => tm_at "put"
    case e1 =>
      refine' HE.fn F' ?m1 (HA.cons ?a1 (HA.cons ?a2 (HA.cons ?a3 (HA.cons ?a4 (HA.cons ?a5 HA.nil))))) hc ?h1
      case h1 => intro _; rfl
      case m1 => tm_at "mem"
      case a1 => tm_at "x"
      case a2 => tm_at "x"
      case a3 => tm_at "x"
      case a4 =>
        refine' HE.bin ?x1 (HE.bin ?x2 ?x3 (Op.mod (by decide))) Op.add
        case x1 => tm_at "x"
        case x3 => tm_at "x"
        case x2 =>
          refine' HE.sub' (v := .list (cl.map .int)) (i := .int 7) ?l5 ?r5 ?v5 (Op.itemL (by decide) (by decide) (cell_at hcl 7 (by decide))) ?hsl5
          case hsl5 => exact fun _ _ => ⟨_, rfl⟩
          case l5 => tm_at "x"
          case r5 => tm_at "x"
          case v5 => rfl
      case a5 =>
        refine' HE.sub' (v := .list ([0, 1, 3].map .int)) (i := .int (((cl.getD 7 0).fdiv 4).fmod 3)) ?l6 ?r6 ?v6 (Op.itemL h3.1 h3.2.1 hit) ?hsl6
        case hsl6 => exact fun _ _ => ⟨_, rfl⟩
        case v6 => rfl
        case l6 =>
          show HE W n (scAt 29) _ _ (.val (.list [.int 0, .int 1, .int 3]))
          tm_at "x"
        case r6 =>
          refine' HE.bin (HE.bin ?x4 ?x5 (Op.fdiv (by decide) (by decide))) ?x6 (Op.mod (by decide))
          case x5 => tm_at "x"
          case x6 => tm_at "x"
          case x4 =>
            refine' HE.sub' (v := .list (cl.map .int)) (i := .int 7) ?l7 ?r7 ?v7 (Op.itemL (by decide) (by decide) (cell_at hcl 7 (by decide))) ?hsl7
            case hsl7 => exact fun _ _ => ⟨_, rfl⟩
            case l7 => tm_at "x"
            case r7 => tm_at "x"
            case v7 => rfl
    case n1 =>
    refine' HS.ifN (c := isNoneV (.dict (intsD T'))) ?t7 (by intro h; cases h) ?nI
    case t7 =>
      refine' HB.cmpN ?t8
      case t8 => tm_at "x"
    case nI =>
    intro _
    exact HS.nil ⟨_, by rw [hT'], okB_imm _⟩
theorem blk3 {SV NV : V} {cl pl : List Int} {st s0 s1 : Int} {kv : List (Int × Int)} {y : Bd} {Post : Out → List Bd → Prop} (hy : okB y) (hl : kv.length < 64) (hn : (kv.map (·.1)).Nodup) (hso : Bi W "sorted" (.builtin "sorted"))
    (c1 : CallOk W n "_law_straight" [.list (pl.map .int), .list ([s0, s1].map .int)] (.val (.dict (intsD (tidyZ kv)))))
    (hP : Post .next [.imm SV, .imm (.list (cl.map .int)), .imm (.list (flagN.map .str)), .imm NV, .imm (.int st), .imm (.list (pl.map .int)), .imm (.list ([s0, s1].map .int)), .imm (.dict (intsD kv)), y, .unb, .imm (.dict (intsD (tidyZ kv))), .unb, .unb, .unb, .unb, .unb, .unb, .unb, .unb, .unb, .unb, .unb, .unb, .unb, .unb]) :
    HS W n (scAt 29) [.imm SV, .imm (.list (cl.map .int)), .imm (.list (flagN.map .str)), .imm NV, .imm (.int st), .imm (.list (pl.map .int)), .imm (.list ([s0, s1].map .int)), .imm (.dict (intsD kv)), y, .unb, .unb, .unb, .unb, .unb, .unb, .unb, .unb, .unb, .unb, .unb, .unb, .unb, .unb, .unb, .unb] [sA 8, sA 9] Post := by
  have F := F29
  have F' := F.fc
  refine' HS.asgCompD F (out := intsD (tidyZ kv)) ?hcd ?p1 ?n1 ?o1
  case p1 => tm_at "put"
  case o1 => simp only [oneD, noD, hy.2]; rfl
  case hcd =>
    unfold tidyZ
    rw [show intsD (((keysZ kv).filter fun k => (dgetZ kv k).getD 0 != 0).map fun k => (k, (dgetZ kv k).getD 0)) = ((keysZ kv).filter fun k => (dgetZ kv k).getD 0 != 0).map fun k => (k, V.int ((dgetZ kv k).getD 0)) by unfold intsD; rw [List.map_map]; rfl]
    refine' CompD.mapA (as := keysZ kv) (fv := V.int) (caps := [none, some 7]) 0 (fun k => (dgetZ kv k).getD 0 != 0) (fun k => k) (fun k => .int ((dgetZ kv k).getD 0)) ?hi3 ?ok3 ?him3 (fun b => [b, .imm (.dict (intsD kv))]) ?hR3 ?hlen3 ?hnd3 ?ht3 ?hk3 ?he3 ?how3 ?hx3 ?hfr3 ?hs3
    case hR3 => intro _; rfl
    case hi3 =>
      refine' HI.v (v := .list ((keysZ kv).map .int)) ?hs4 OpI.list
      case hs4 =>
      refine' HE.toV (HE.bi F' ?m4 hso ?a4 (OpC.sortedZ ?z4) ?he4 ?hpl4)
      case he4 => intro _; rfl
      case hpl4 => intro _; rfl
      case m4 => tm_at "mem"
      case a4 => tm_at "ha"
      case z4 => exact hl
    case ok3 => tm_at "ok"
    case him3 => tm_at "him"
    case hlen3 => rw [keysZ_len]; omega
    case hnd3 => rw [List.map_id']; exact keysZ_nodup hn
    case ht3 =>
      intro k hk
      obtain ⟨v, hv⟩ := keysZ_mem hk
      refine HTests.fc (nms := ["state", "table"]) (gl := []) (by tm_at "fc") fun G => HTests.one ?_
      refine' HB.cmp ?l9 ?r9 Op.ne ?m9
      case m9 => with_unfolding_all rfl
      case l9 =>
        refine' HE.sub' (v := .dict (intsD kv)) (i := .int k) ?l10 ?r10 ?v10 (Op.dgetI (by rw [dget_ints, hv]; rfl)) ?hsl10
        case hsl10 => exact fun _ _ => ⟨_, rfl⟩
        case l10 => tm_at "x"
        case r10 => tm_at "x"
        case v10 => rfl
      case r9 => tm_at "x"
    case hk3 =>
      intro k hk _
      refine HE.fc (nms := ["state", "table"]) (gl := []) (by tm_at "fc") fun G => ?_
      tm_at "x"
    case he3 =>
      intro k hk _
      obtain ⟨v, hv⟩ := keysZ_mem hk
      refine HE.fc (nms := ["state", "table"]) (gl := []) (by tm_at "fc") fun G => ?_
      refine' HE.sub' (v := .dict (intsD kv)) (i := .int k) ?l11 ?r11 ?v11 (Op.dgetI (by rw [dget_ints, hv]; rfl)) ?hsl11
      case hsl11 => exact fun _ _ => ⟨_, rfl⟩
      case l11 => tm_at "x"
      case r11 => tm_at "x"
      case v11 => rfl
    case how3 => tm_at "how"
    case hx3 => decide +kernel
    case hfr3 => decide +kernel
    case hs3 => intro _ _; rfl
  case n1 =>
  refine' HS.ifN (c := false) ?t6 (by intro h; cases h) ?b6
  case b6 => intro _; exact HS.nil hP
  case t6 =>
    refine' HB.cmp ?l12 ?r12 Op.neDself ?m12
    case m12 => with_unfolding_all rfl
    case l12 => tm_at "x"
    case r12 =>
      refine' HE.fn F' ?m13 (HA.cons ?a13 (HA.cons ?a14 HA.nil)) c1 ?h13
      case h13 => intro _; rfl
      case m13 => tm_at "mem"
      case a13 => tm_at "x"
      case a14 => tm_at "x"
noncomputable def r32 : List Int := rangeInts 0 1 32
theorem nm_at32 : ∀ k ∈ r32, 0 ≤ k ∧ k < 1000000 ∧ (flagN.map V.str)[k.toNat]? = some (.str (nmI k)) := by
  have : ∀ k ∈ r32, 0 ≤ k ∧ k < 1000000 ∧ k.toNat < flagN.length := by decide +kernel
  intro k hk
  obtain ⟨h1, h2, h3⟩ := this k hk
  refine ⟨h1, h2, ?_⟩
  rw [List.getElem?_map, List.getElem?_eq_getElem h3, nmI, List.getD_eq_getElem?_getD, List.getElem?_eq_getElem h3]
  rfl
noncomputable def holesL (pl : List Int) : List Str := ((r32.filter fun k => !(pl.any (· == k))).map nmI) ++ (["-0x100000000"] : List Str)
noncomputable def aboveL (pl : List Int) (c : Int) : List Str := pl.map nmI ++ [("0x" : Str) ++ ⟨#[digI c]⟩ ++ Txt.mul "0" 8]
theorem dig_all (c : Int) : (-1000000 ≤ c.fmod 4 ∧ c.fmod 4 ≤ 1000000) ∧ (seqIndex? (c.fmod 4) ("1248" : Str).length).bind (("1248" : Str).cps[·]?) = some (digI c) := by
  have h : ∀ m : Int, (m = 0 ∨ m = 1 ∨ m = 2 ∨ m = 3) → (-1000000 ≤ m ∧ m ≤ 1000000) ∧ (seqIndex? m ("1248" : Str).length).bind (("1248" : Str).cps[·]?) = some (([49, 50, 52, 56] : List Nat).getD m.toNat 49) := by
    rintro m (rfl | rfl | rfl | rfl) <;> decide +kernel
  exact h _ (by rw [Int.fmod_eq_emod_of_nonneg _ (by decide)]; omega)
theorem ne_self_str (x : Str) : (x != x) = false := by simp
end

/-! part G29c -/
section
open PySem PySem.W PyProof.Rows PySem.Calls
set_option maxRecDepth 100000
set_option maxHeartbeats 2000000
variable {W : Wd} {n : Nat}
theorem blk4 {SV NV TV WV : V} {cl pl : List Int} {st s0 s1 : Int} {y : Bd} {Post : Out → List Bd → Prop} (hcl : cl.length = 8) (hr : Bi W "range" (.type "range")) (hpl : ∀ k ∈ pl, k ∈ r32) (hplen : pl.length ≤ 100)
    (j1 : JoinOk ", " (holesL pl) = true) (c1 : CallOk W n "pretty_flags" [.int (-1 - st)] (.val (.str (Txt.join ", " (holesL pl))))) (c2 : CallOk W n "pretty_flags" [.int (Builtin.bitAnd st (-1 - st))] (.val (.str "0x0")))
    (j2 : JoinOk ", " (aboveL pl (cl.getD 7 0)) = true) (c3 : CallOk W n "pretty_flags" [.int (st + 2 ^ (32 + (cl.getD 7 0).fmod 4).toNat)] (.val (.str (Txt.join ", " (aboveL pl (cl.getD 7 0))))))
    (hP : ∀ hv av : V, Post .next [.imm SV, .imm (.list (cl.map .int)), .imm (.list (flagN.map .str)), .imm NV, .imm (.int st), .imm (.list (pl.map .int)), .imm (.list ([s0, s1].map .int)), .imm TV, y, .unb, .imm WV, .imm hv, .imm av, .unb, .unb, .unb, .unb, .unb, .unb, .unb, .unb, .unb, .unb, .unb, .unb]) :
    HS W n (scAt 29) [.imm SV, .imm (.list (cl.map .int)), .imm (.list (flagN.map .str)), .imm NV, .imm (.int st), .imm (.list (pl.map .int)), .imm (.list ([s0, s1].map .int)), .imm TV, y, .unb, .imm WV, .unb, .unb, .unb, .unb, .unb, .unb, .unb, .unb, .unb, .unb, .unb, .unb, .unb, .unb] [sA 10, sA 11, sA 12, sA 13] Post := by
  have F := F29
  have F' := F.fc
  refine' HS.asg F (v := .list ((holesL pl).map .str)) ?e1 ?p1 ?n1
  case p1 => tm_at "put"
  case e1 =>
    unfold holesL
    refine HE.castV (r := .list ((r32.filter fun k => !(pl.any (· == k))).map (V.str ∘ nmI) ++ [.str "-0x100000000"])) ?_ (by rw [List.map_append, List.map_map]; rfl)
    refine' HE.bin ?l1 ?r1 (Op.addLV ?o1)
    case r1 => exact HE.list' (HA.cons HE.str HA.nil) (by decide)
    case o1 =>
      have h1 : (r32.filter fun k => !(pl.any (· == k))).length ≤ 32 := List.length_filter_le ..
      rw [List.length_map]
      have h2 : ([V.str "-0x100000000"] : List V).length = 1 := rfl
      omega
    case l1 =>
      refine CompR.hv ?_
      refine' CompR.mapA (as := r32) (fv := V.int) (caps := [none, some 2, some 5]) 0 (fun k => !(pl.any (· == k))) (V.str ∘ nmI) ?hi ?ok ?him (fun b => [b, .imm (.list (flagN.map .str)), .imm (.list (pl.map .int))]) ?hR ?hlen ?ht ?he ?how ?hx ?hfr ?hs
      case hR => intro _; rfl
      case hi =>
        refine' HI.v ?hix (OpI.range (a := 0) (b := 32) (c := 1) (k := 32) ?hia ?hib)
        case hix => tm_at "x"
        case hia => decide +kernel
        case hib => decide +kernel
      case ok => tm_at "ok"
      case him => tm_at "him"
      case hlen => decide
      case ht =>
        intro k hk
        refine HTests.fc (nms := ["k", "names", "places"]) (gl := []) (by tm_at "fc") fun G => HTests.one ?_
        refine' HB.cmp ?l2 ?r2 Op.notinLI ?m2
        case m2 => with_unfolding_all rfl
        case l2 => tm_at "x"
        case r2 => tm_at "x"
      case he =>
        intro k hk _
        obtain ⟨h1, h2, h3⟩ := nm_at32 k hk
        refine HE.fc (nms := ["k", "names", "places"]) (gl := []) (by tm_at "fc") fun G => ?_
        refine' HE.sub' (v := .list (flagN.map .str)) (i := .int k) ?l3 ?r3 ?v3 (Op.itemL h1 h2 h3) ?hsl3
        case hsl3 => exact fun _ _ => ⟨_, rfl⟩
        case l3 => tm_at "x"
        case r3 => tm_at "x"
        case v3 => rfl
      case how => tm_at "how"
      case hx => decide +kernel
      case hfr => decide +kernel
      case hs => intro _ _; rfl
  case n1 =>
  refine' HS.ifN (c := false) ?t2 (by intro h; cases h) ?b2
  case t2 =>
    refine' HB.cast (r := (false || (false || false))) (HB.or ?g1 fun _ => HB.or ?g2 fun _ => HB.orNil) rfl
    case g1 =>
      refine' HB.cast (HB.cmp ?l4 ?r4 Op.neS ?m4) (ne_self_str (Txt.join ", " (holesL pl)))
      case m4 => with_unfolding_all rfl
      case l4 =>
        refine' HE.fn F' ?m5 (HA.cons ?a5 HA.nil) c1 ?h5
        case h5 => intro _; rfl
        case m5 => tm_at "mem"
        case a5 => tm_at "x"
      case r4 =>
        refine' HE.joinM ?o6 ?e6 j1 ?h61 ?h62 ?h63 ?h64 ?h65
        case h61 | h62 | h64 | h65 => intro _; rfl
        case h63 => rfl
        case o6 => tm_at "x"
        case e6 => tm_at "x"
    case g2 =>
      refine' HB.cast (HB.cmp ?l7 ?r7 Op.neS ?m7) (ne_self_str "0x0")
      case m7 => with_unfolding_all rfl
      case r7 => tm_at "x"
      case l7 =>
        refine' HE.fn F' ?m8 (HA.cons ?a8 HA.nil) c2 ?h8
        case h8 => intro _; rfl
        case m8 => tm_at "mem"
        case a8 => tm_at "x"
  case b2 =>
  intro _
  generalize (holesL pl).map V.str = hv
  refine' HS.asg F (v := .list ((aboveL pl (cl.getD 7 0)).map .str)) ?e9 ?p9 ?n9
  case p9 => tm_at "put"
  case e9 =>
    unfold aboveL
    refine HE.castV (r := .list (pl.map (V.str ∘ nmI) ++ [.str (("0x" : Str) ++ ⟨#[digI (cl.getD 7 0)]⟩ ++ Txt.mul "0" 8)])) ?_ (by rw [List.map_append, List.map_map]; rfl)
    refine' HE.bin ?l10 ?r10 (Op.addLV ?o10)
    case o10 =>
      rw [List.length_map]
      have h2 : ([V.str (("0x" : Str) ++ ⟨#[digI (cl.getD 7 0)]⟩ ++ Txt.mul "0" 8)] : List V).length = 1 := rfl
      omega
    case r10 =>
      refine' HE.list' (HA.cons ?a11 HA.nil) (Nat.le_of_ble_eq_true rfl)
      case a11 =>
        refine' HE.bin (HE.bin ?x1 ?x2 (Op.addS ?o11)) ?x3 (Op.addS ?o12)
        case x1 => tm_at "x"
        case o11 => exact (by decide : (2:Nat) + 1 ≤ 1000000)
        case o12 => exact (by decide : (3:Nat) + (Txt.mul "0" 8).length ≤ 1000000)
        case x3 =>
          refine' HE.bin ?x4 ?x5 (Op.mulS ?o13 ?o14 ?o15)
          case x4 => tm_at "x"
          case x5 => tm_at "x"
          case o13 => decide
          case o14 => decide
          case o15 => decide
        case x2 =>
          have hd := dig_all (cl.getD 7 0)
          refine' HE.sub' ?l12 ?r12 ?v12 (Op.itemS hd.1.1 hd.1.2 hd.2) ?hsl12
          case hsl12 => exact fun _ _ => ⟨_, rfl⟩
          case l12 => tm_at "x"
          case v12 => rfl
          case r12 =>
            refine' HE.bin ?x6 ?x7 (Op.mod (by decide))
            case x7 => tm_at "x"
            case x6 =>
              refine' HE.sub' (v := .list (cl.map .int)) (i := .int 7) ?l13 ?r13 ?v13 (Op.itemL (by decide) (by decide) (cell_at hcl 7 (by decide))) ?hsl13
              case hsl13 => exact fun _ _ => ⟨_, rfl⟩
              case l13 => tm_at "x"
              case r13 => tm_at "x"
              case v13 => rfl
    case l10 =>
      refine CompR.hv ?_
      refine CompR.cast (out := (pl.filter fun _ => true).map (V.str ∘ nmI)) ?_ (by rw [List.filter_eq_self.mpr (fun _ _ => rfl)])
      refine' CompR.mapA (as := pl) (fv := V.int) (caps := [none, some 2]) 0 (fun _ => true) (V.str ∘ nmI) ?hi14 ?ok14 ?him14 (fun b => [b, .imm (.list (flagN.map .str))]) ?hR14 ?hlen14 ?ht14 ?he14 ?how14 ?hx14 ?hfr14 ?hs14
      case hR14 => intro _; rfl
      case hi14 => exact HI.v (v := .list (pl.map .int)) (by tm_at "x") OpI.list
      case ok14 => tm_at "ok"
      case him14 => tm_at "him"
      case hlen14 => omega
      case ht14 => intro _ _; exact HTests.nil
      case he14 =>
        intro k hk _
        obtain ⟨h1, h2, h3⟩ := nm_at32 k (hpl k hk)
        refine HE.fc (nms := ["k", "names"]) (gl := []) (by tm_at "fc") fun G => ?_
        refine' HE.sub' (v := .list (flagN.map .str)) (i := .int k) ?l15 ?r15 ?v15 (Op.itemL h1 h2 h3) ?hsl15
        case hsl15 => exact fun _ _ => ⟨_, rfl⟩
        case l15 => tm_at "x"
        case r15 => tm_at "x"
        case v15 => rfl
      case how14 => tm_at "how"
      case hx14 => decide +kernel
      case hfr14 => decide +kernel
      case hs14 => intro _ _; rfl
  case n9 =>
  refine' HS.ifN (c := false) ?t16 (by intro h; cases h) ?b16
  case b16 => intro _; exact HS.nil (hP _ _)
  case t16 =>
    refine' HB.cast (HB.cmp ?l17 ?r17 Op.neS ?m17) (ne_self_str (Txt.join ", " (aboveL pl (cl.getD 7 0))))
    case m17 => with_unfolding_all rfl
    case l17 =>
      refine' HE.fn F' ?m18 (HA.cons ?a18 HA.nil) c3 ?h18
      case h18 => intro _; rfl
      case m18 => tm_at "mem"
      case a18 =>
        have h4 : 0 ≤ (cl.getD 7 0).fmod 4 ∧ (cl.getD 7 0).fmod 4 < 4 := by rw [Int.fmod_eq_emod_of_nonneg _ (by decide)]; omega
        refine' HE.bin ?x8 (HE.bin ?x9 (HE.bin ?x10 (HE.bin ?x11 ?x12 (Op.mod (by decide))) Op.add) (Op.pow ?x13 ?x14)) Op.add
        case x8 => tm_at "x"
        case x9 => tm_at "x"
        case x10 => tm_at "x"
        case x12 => tm_at "x"
        case x13 => omega
        case x14 => rw [show Builtin.Int.intBits 2 = 2 from rfl]; omega
        case x11 =>
          refine' HE.sub' (v := .list (cl.map .int)) (i := .int 7) ?l19 ?r19 ?v19 (Op.itemL (by decide) (by decide) (cell_at hcl 7 (by decide))) ?hsl19
          case hsl19 => exact fun _ _ => ⟨_, rfl⟩
          case l19 => tm_at "x"
          case r19 => tm_at "x"
          case v19 => rfl
    case r17 =>
      refine' HE.joinM ?o20 ?e20 j2 ?h201 ?h202 ?h203 ?h204 ?h205
      case h201 | h202 | h204 | h205 => intro _; rfl
      case h203 => rfl
      case o20 => tm_at "x"
      case e20 => tm_at "x"
noncomputable def restZ (c b : Int) : Int := if b != 0 then c.fmod b else c
theorem blk5 {SV TV WV hv av : V} {x0 x1 x2 : Int} {cl pl : List Int} {st s0 s1 b : Int} {H : Nat → Int} {y : Bd} {Post : Out → List Bd → Prop} (hcl : cl.length = 8)
    (c1 : CallOk W n "_law_alternant" [.list [.int 0, .int 1, .int 2], .list [.int x0, .int x1, .int x2]] (.val (.int b)))
    (c2 : CallOk W n "_law_sums" [.list [.int x0, .int x1, .int x2]] (.val (.list (sumsV H))))
    (hP : Post .next [.imm SV, .imm (.list (cl.map .int)), .imm (.list (flagN.map .str)), .imm (.list [.int x0, .int x1, .int x2]), .imm (.int st), .imm (.list (pl.map .int)), .imm (.list ([s0, s1].map .int)), .imm TV, y, .unb, .imm WV, .imm hv, .imm av, .imm (.int b), .imm (.int (restZ (cl.getD 6 0) b)), .imm (.list (sumsV H)), .imm (.int 0), .unb, .unb, .unb, .unb, .unb, .unb, .unb, .unb]) :
    HS W n (scAt 29) [.imm SV, .imm (.list (cl.map .int)), .imm (.list (flagN.map .str)), .imm (.list [.int x0, .int x1, .int x2]), .imm (.int st), .imm (.list (pl.map .int)), .imm (.list ([s0, s1].map .int)), .imm TV, y, .unb, .imm WV, .imm hv, .imm av, .unb, .unb, .unb, .unb, .unb, .unb, .unb, .unb, .unb, .unb, .unb, .unb] [sA 14, sA 15, sA 16, sA 17] Post := by
  have F := F29
  have F' := F.fc
  refine' HS.asg F (v := .int b) ?e1 ?p1 ?n1
  case p1 => tm_at "put"
  case e1 =>
    refine' HE.fn F' ?m1 (HA.cons ?a1 (HA.cons ?a2 HA.nil)) c1 ?h1
    case h1 => intro _; rfl
    case m1 => tm_at "mem"
    case a1 => tm_at "x"
    case a2 => tm_at "x"
  case n1 =>
  have c6 : ∀ ρ : List Bd, True := fun _ => trivial
  refine' HS.asg F (v := .int (restZ (cl.getD 6 0) b)) ?e2 ?p2 ?n2
  case p2 => tm_at "put"
  case e2 =>
    refine' HE.iteV (c := b != 0) (v := .int ((cl.getD 6 0).fmod b)) (w := .int (cl.getD 6 0)) ?t3 ?a3 ?b3 ?u3
    case u3 => unfold restZ; split <;> rfl
    case t3 =>
      refine' HB.cmp ?l4 ?r4 Op.ne ?m4
      case m4 => with_unfolding_all rfl
      case l4 => tm_at "x"
      case r4 => tm_at "x"
    case a3 =>
      intro hb
      refine' HE.bin ?x1 ?x2 (Op.mod (by simpa using hb))
      case x2 => tm_at "x"
      case x1 =>
        refine' HE.sub' (v := .list (cl.map .int)) (i := .int 6) ?l5 ?r5 ?v5 (Op.itemL (by decide) (by decide) (cell_at hcl 6 (by decide))) ?hsl5
        case hsl5 => exact fun _ _ => ⟨_, rfl⟩
        case l5 => tm_at "x"
        case r5 => tm_at "x"
        case v5 => rfl
    case b3 =>
      intro _
      refine' HE.sub' (v := .list (cl.map .int)) (i := .int 6) ?l6 ?r6 ?v6 (Op.itemL (by decide) (by decide) (cell_at hcl 6 (by decide))) ?hsl6
      case hsl6 => exact fun _ _ => ⟨_, rfl⟩
      case l6 => tm_at "x"
      case r6 => tm_at "x"
      case v6 => rfl
  case n2 =>
  refine' HS.asg F (v := .list (sumsV H)) ?e7 ?p7 ?n7
  case p7 => tm_at "put"
  case e7 =>
    refine' HE.fn F' ?m8 (HA.cons ?a8 HA.nil) c2 ?h8
    case h8 => intro _; rfl
    case m8 => tm_at "mem"
    case a8 => tm_at "x"
  case n7 =>
  refine' HS.asg F (v := .int 0) ?e9 ?p9 ?n9
  case p9 => tm_at "put"
  case e9 => tm_at "x"
  case n9 => exact HS.nil hP
end

/-! part G29d -/
section
open PySem PySem.W PyProof.Rows PySem.Calls
set_option maxRecDepth 100000
set_option maxHeartbeats 2000000
variable {W : Wd} {n : Nat}
/-- what a division told: the number and the rest, where there is a divisor -/
noncomputable def SplR (b a x s : Int) : Prop := b ≠ 0 → a.fdiv b = x ∧ a.fmod b = s ∧ Builtin.Int.intBits a ≤ 1800
/-- the law's comparisons of divisions, with a divisor or without -/
structure SplitQ (qq : Env → Around → Prop) (W : Wd) (n : Nat) (b : Int) : Prop where
  ifS : ∀ {ρ : List Bd} {np cp p ip : Pos} {e r : Expr} {es : List Expr} {body : List Stmt} {a x s : Int}, SplR b a x s → HA W n (scAt 29) ρ cp (e :: es) [.int a, .int b] → HE W n (scAt 29) ρ r (.val (dueV x s b)) →
    (∀ env, starEach (e :: es) env = (false, eval e env) :: starEach es env) → behindInMarks .NotEq r = false →
    HTq qq W n (scAt 29) ρ (.If (.Compare (.Call (.Name "_law_split" np) (e :: es) [] cp) [.NotEq] [r] p) body [] ip) (fun o r => o = .next ∧ r = ρ)
  ret : ∀ {ρ : List Bd} {np cp p rp : Pos} {e r : Expr} {es : List Expr} {a x s : Int}, SplR b a x s → HA W n (scAt 29) ρ cp (e :: es) [.int a, .int b] → HE W n (scAt 29) ρ r (.val (dueV x s b)) →
    (∀ env, starEach (e :: es) env = (false, eval e env) :: starEach es env) → behindInMarks .Eq r = false →
    HTq qq W n (scAt 29) ρ (.Return (some (.Compare (.Call (.Name "_law_split" np) (e :: es) [] cp) [.Eq] [r] p)) rp) (fun o r => o = .ret (.bool true))
theorem mem29 : ("_law_split" : Str) ∈ (["enumerate", "_law_names", "range", "_law_onward", "sorted", "_law_straight", "pretty_flags", "_law_alternant", "_law_sums", "_law_split", "_law_due", "_law_jacobi", "len", "_law_spell", "_levenshtein_distance", "sum"] : List Str) := by tm_at "mem"
theorem splitQ_some {qq : Env → Around → Prop} {b : Int} (hb : b ≠ 0) (c : ∀ a, Builtin.Int.intBits a ≤ 1800 → CallOk W n "_law_split" [.int a, .int b] (.val (.list ([a.fdiv b, a.fmod b].map decV)))) : SplitQ qq W n b where
  ifS := by
    intro ρ np cp p ip e r es body a x s hR ha hr he hm
    obtain ⟨h1, h2, h3⟩ := hR hb
    have hc := c a h3
    rw [h1, h2] at hc
    have hr' : HE W n (scAt 29) ρ r (.val (.list ([x, s].map decV))) := HE.castV hr (by unfold dueV; rw [if_pos (by simpa using hb)])
    exact TX.toQ (HT.ifS (c := false) (HB.cmp (HE.fn F29.fc mem29 ha hc he) hr' (Op.neLZ rfl) hm) (by intro h; cases h) fun _ => HS.nil ⟨rfl, rfl⟩)
  ret := by
    intro ρ np cp p rp e r es a x s hR ha hr he hm
    obtain ⟨h1, h2, h3⟩ := hR hb
    have hc := c a h3
    rw [h1, h2] at hc
    have hr' : HE W n (scAt 29) ρ r (.val (.list ([x, s].map decV))) := HE.castV hr (by unfold dueV; rw [if_pos (by simpa using hb)])
    exact TX.toQ (HT.ret (HE.cmp (HE.fn F29.fc mem29 ha hc he) hr' (Op.eqLZ rfl) hm) rfl)
theorem splitQ_none (c : ∀ a, CallS W n "_law_split" [.int a, .int 0] "none") : SplitQ qTop W n 0 where
  ifS := fun _ ha hr he hm => HTq.ifS (F29.gl _ mem29) (c _) ha hr he hm
  ret := fun _ ha hr he hm => HTq.retS (F29.gl _ mem29) (c _) ha hr he hm
/-- the loop over the ways -/
noncomputable def lB : List Stmt := (forOf (some (sA 18))).2.1
noncomputable def lS (j : Nat) : Stmt := match lB[j]? with | some s => s | none => .Pass default
noncomputable def sumW (A : Int → Int) (l : List (Int × Int)) : Int := l.foldl (fun acc p => acc + p.2 * A p.1) 0
theorem loopA {SV NV TV hv av : V} {cl pl : List Int} {st s0 s1 b rs k A w : Int} {wz : List (Int × Int)} {H : Nat → Int} {y u v : Bd} {Post : Out → List Bd → Prop} (hr : Bi W "range" (.type "range")) (hy : okB y) (hu : okB u) (hv' : okB v)
    (cP : CallOk W n "pretty_flags" [.int k] (.val (.str (Txt.join ", " ((spots k).map nmI))))) (hj : JoinOk ", " ((spots k).map nmI) = true) (cA : CallOk W n "_law_alternant" [.list ((spots k).map .int), NV] (.val (.int A)))
    (hP : Post .next [.imm SV, .imm (.list (cl.map .int)), .imm (.list (flagN.map .str)), .imm NV, .imm (.int st), .imm (.list (pl.map .int)), .imm (.list ([s0, s1].map .int)), .imm TV, y, .imm (.int k), .imm (.dict (intsD wz)), .imm hv, .imm av, .imm (.int b), .imm (.int rs), .imm (.list (sumsV H)), .imm (.int w), .imm (.list ((spots k).map .int)), .imm (.int A), .unb, .unb, .unb, .unb, .unb, .unb]) :
    HS W n (scAt 29) [.imm SV, .imm (.list (cl.map .int)), .imm (.list (flagN.map .str)), .imm NV, .imm (.int st), .imm (.list (pl.map .int)), .imm (.list ([s0, s1].map .int)), .imm TV, y, .imm (.int k), .imm (.dict (intsD wz)), .imm hv, .imm av, .imm (.int b), .imm (.int rs), .imm (.list (sumsV H)), .imm (.int w), u, v, .unb, .unb, .unb, .unb, .unb, .unb] [lS 0, lS 1, lS 2] Post := by
  have F := F29
  have F' := F.fc
  have hsub : ∀ j ∈ spots k, j ∈ r32 := fun j hj => by
    have h := (List.mem_filter.mp hj).1
    have : ∀ j ∈ r12, j ∈ r32 := by decide +kernel
    exact this j h
  have hsl := spots_len k
  refine' HS.asgComp F (out := (spots k).map .int) ?e1 ?p1 ?n1 ?o1
  case p1 => tm_at "put"
  case o1 => simp only [oneL, noL, hy.1, hu.1, hv'.1]; rfl
  case e1 =>
    unfold spots
    refine' CompR.mapA (as := r12) (fv := V.int) (caps := [none, some 9]) 0 (fun j => bitI k j != 0) V.int ?hi ?ok ?him (fun b => [b, .imm (.int k)]) ?hR ?hlen ?ht ?he ?how ?hx ?hfr ?hs
    case hR => intro _; rfl
    case hi => exact hi12 F' (by tm_at "mem") hr
    case ok => tm_at "ok"
    case him => tm_at "him"
    case hlen => decide
    case ht =>
      intro j hj
      have hj' := r12_lt j hj
      refine HTests.fc (nms := ["k", "state"]) (gl := []) (by tm_at "fc") fun G => HTests.one ?_
      unfold bitI
      tm_at "b"
      exact hj'.1
    case he =>
      intro j hj _
      refine HE.fc (nms := ["k", "state"]) (gl := []) (by tm_at "fc") fun G => ?_
      tm_at "x"
    case how => tm_at "how"
    case hx => decide +kernel
    case hfr => decide +kernel
    case hs => intro _ _; rfl
  case n1 =>
  refine' HS.ifN (c := false) ?t2 (by intro h; cases h) ?b2
  case t2 =>
    refine' HB.cast (HB.cmp ?l3 ?r3 Op.neS ?m3) (ne_self_str (Txt.join ", " ((spots k).map nmI)))
    case m3 => with_unfolding_all rfl
    case l3 =>
      refine' HE.fn F' ?m4 (HA.cons ?a4 HA.nil) cP ?h4
      case h4 => intro _; rfl
      case m4 => tm_at "mem"
      case a4 => tm_at "x"
    case r3 =>
      refine' HE.joinM ?o5 ?e5 hj ?h51 ?h52 ?h53 ?h54 ?h55
      case h51 | h52 | h54 | h55 => intro _; rfl
      case h53 => rfl
      case o5 => tm_at "x"
      case e5 =>
        refine CompR.hv (CompR.cast (out := ((spots k).filter fun _ => true).map (V.str ∘ nmI)) ?_ (by rw [List.filter_eq_self.mpr (fun _ _ => rfl), List.map_map]))
        refine' CompR.mapA (as := spots k) (fv := V.int) (caps := [none, some 2]) 0 (fun _ => true) (V.str ∘ nmI) ?hi6 ?ok6 ?him6 (fun b => [b, .imm (.list (flagN.map .str))]) ?hR6 ?hlen6 ?ht6 ?he6 ?how6 ?hx6 ?hfr6 ?hs6
        case hR6 => intro _; rfl
        case hi6 => exact HI.v (v := .list ((spots k).map .int)) (by tm_at "x") OpI.list
        case ok6 => tm_at "ok"
        case him6 => tm_at "him"
        case hlen6 => omega
        case ht6 => intro _ _; exact HTests.nil
        case he6 =>
          intro j hj _
          obtain ⟨h1, h2, h3⟩ := nm_at32 j (hsub j hj)
          refine HE.fc (nms := ["k", "names"]) (gl := []) (by tm_at "fc") fun G => ?_
          refine' HE.sub' (v := .list (flagN.map .str)) (i := .int j) ?l7 ?r7 ?v7 (Op.itemL h1 h2 h3) ?hsl7
          case hsl7 => exact fun _ _ => ⟨_, rfl⟩
          case l7 => tm_at "x"
          case r7 => tm_at "x"
          case v7 => rfl
        case how6 => tm_at "how"
        case hx6 => decide +kernel
        case hfr6 => decide +kernel
        case hs6 => intro _ _; rfl
  case b2 =>
  intro _
  refine' HS.asg F (v := .int A) ?e8 ?p8 ?n8
  case p8 => tm_at "put"
  case e8 =>
    refine' HE.fn F' ?m9 (HA.cons ?a9 (HA.cons ?a10 HA.nil)) cA ?h9
    case h9 => intro _; rfl
    case m9 => tm_at "mem"
    case a9 => tm_at "x"
    case a10 => tm_at "x"
  case n8 => exact HS.nil hP
theorem loopB {qq : Env → Around → Prop} {SV NV TV hv av : V} {cl pl : List Int} {st s0 s1 b rs k A J w : Int} {wz : List (Int × Int)} {H : Nat → Int} {y : Bd} (SQ : SplitQ qq W n b)
    (cJ : CallOk W n "_law_jacobi" [.list ((spots k).map .int), .list (sumsV H)] (.val (.int J))) (cD : CallOk W n "_law_due" [.int J, .int rs, .int b] (.val (dueV J rs b))) (hR : SplR b (A + rs) J rs) :
    HTq qq W n (scAt 29) [.imm SV, .imm (.list (cl.map .int)), .imm (.list (flagN.map .str)), .imm NV, .imm (.int st), .imm (.list (pl.map .int)), .imm (.list ([s0, s1].map .int)), .imm TV, y, .imm (.int k), .imm (.dict (intsD wz)), .imm hv, .imm av, .imm (.int b), .imm (.int rs), .imm (.list (sumsV H)), .imm (.int w), .imm (.list ((spots k).map .int)), .imm (.int A), .unb, .unb, .unb, .unb, .unb, .unb] (lS 3)
      (fun o r => o = .next ∧ r = [.imm SV, .imm (.list (cl.map .int)), .imm (.list (flagN.map .str)), .imm NV, .imm (.int st), .imm (.list (pl.map .int)), .imm (.list ([s0, s1].map .int)), .imm TV, y, .imm (.int k), .imm (.dict (intsD wz)), .imm hv, .imm av, .imm (.int b), .imm (.int rs), .imm (.list (sumsV H)), .imm (.int w), .imm (.list ((spots k).map .int)), .imm (.int A), .unb, .unb, .unb, .unb, .unb, .unb]) := by
  have F := F29
  have F' := F.fc
  refine' SQ.ifS hR ?a1 ?r1 ?h1 ?m1
  case h1 => intro _; rfl
  case m1 => with_unfolding_all rfl
  case a1 => tm_at "ha"
  case r1 =>
    refine' HE.fn F' ?m2 (HA.cons ?a2 (HA.cons ?a3 (HA.cons ?a4 HA.nil))) cD ?h2
    case h2 => intro _; rfl
    case m2 => tm_at "mem"
    case a3 => tm_at "x"
    case a4 => tm_at "x"
    case a2 =>
      refine' HE.fn F' ?m5 (HA.cons ?a5 (HA.cons ?a6 HA.nil)) cJ ?h5
      case h5 => intro _; rfl
      case m5 => tm_at "mem"
      case a5 => tm_at "x"
      case a6 => tm_at "x"
theorem loopC {SV NV TV hv av : V} {cl pl : List Int} {st s0 s1 b rs k A w c : Int} {wz : List (Int × Int)} {H : Nat → Int} {y : Bd} {Post : Out → List Bd → Prop} (hk : dgetZ wz k = some c) (hc : Builtin.Int.intBits c ≤ 64)
    (hP : Post .next [.imm SV, .imm (.list (cl.map .int)), .imm (.list (flagN.map .str)), .imm NV, .imm (.int st), .imm (.list (pl.map .int)), .imm (.list ([s0, s1].map .int)), .imm TV, y, .imm (.int k), .imm (.dict (intsD wz)), .imm hv, .imm av, .imm (.int b), .imm (.int rs), .imm (.list (sumsV H)), .imm (.int (w + c * A)), .imm (.list ((spots k).map .int)), .imm (.int A), .unb, .unb, .unb, .unb, .unb, .unb]) :
    HS W n (scAt 29) [.imm SV, .imm (.list (cl.map .int)), .imm (.list (flagN.map .str)), .imm NV, .imm (.int st), .imm (.list (pl.map .int)), .imm (.list ([s0, s1].map .int)), .imm TV, y, .imm (.int k), .imm (.dict (intsD wz)), .imm hv, .imm av, .imm (.int b), .imm (.int rs), .imm (.list (sumsV H)), .imm (.int w), .imm (.list ((spots k).map .int)), .imm (.int A), .unb, .unb, .unb, .unb, .unb, .unb] [lS 4] Post := by
  have F := F29
  have F' := F.fc
  refine' HS.asg F (v := .int (w + c * A)) ?e1 ?p1 ?n1
  case p1 => tm_at "put"
  case n1 => exact HS.nil hP
  case e1 =>
    refine' HE.bin ?x1 (HE.bin ?x2 ?x3 (Op.mul (IntMulOk.of_left hc))) Op.add
    case x1 => tm_at "x"
    case x3 => tm_at "x"
    case x2 =>
      refine' HE.sub' (v := .dict (intsD wz)) (i := .int k) ?l4 ?r4 ?v4 (Op.dgetI (by rw [dget_ints, hk]; rfl)) ?hsl4
      case hsl4 => exact fun _ _ => ⟨_, rfl⟩
      case l4 => tm_at "x"
      case r4 => tm_at "x"
      case v4 => rfl
theorem lB_eq : lB = [lS 0, lS 1, lS 2] ++ ([lS 3] ++ [lS 4]) := rfl
theorem blkL {qq : Env → Around → Prop} {SV NV TV hv av : V} {cl pl : List Int} {st s0 s1 b rs : Int} {A J : Int → Int} {wz : List (Int × Int)} {H : Nat → Int} {y : Bd} {Post : Out → List Bd → Prop} (hr : Bi W "range" (.type "range")) (hy : okB y) (SQ : SplitQ qq W n b)
    (hg : ∀ p ∈ wz, dgetZ wz p.1 = some p.2 ∧ Builtin.Int.intBits p.2 ≤ 64)
    (cP : ∀ p ∈ wz, CallOk W n "pretty_flags" [.int p.1] (.val (.str (Txt.join ", " ((spots p.1).map nmI)))) ∧ JoinOk ", " ((spots p.1).map nmI) = true)
    (cA : ∀ p ∈ wz, CallOk W n "_law_alternant" [.list ((spots p.1).map .int), NV] (.val (.int (A p.1))))
    (cJ : ∀ p ∈ wz, CallOk W n "_law_jacobi" [.list ((spots p.1).map .int), .list (sumsV H)] (.val (.int (J p.1))) ∧ CallOk W n "_law_due" [.int (J p.1), .int rs, .int b] (.val (dueV (J p.1) rs b)) ∧ SplR b (A p.1 + rs) (J p.1) rs)
    (hP : ∀ x1 x2 x3, okB x1 → okB x2 → okB x3 → Post .next [.imm SV, .imm (.list (cl.map .int)), .imm (.list (flagN.map .str)), .imm NV, .imm (.int st), .imm (.list (pl.map .int)), .imm (.list ([s0, s1].map .int)), .imm TV, y, x1, .imm (.dict (intsD wz)), .imm hv, .imm av, .imm (.int b), .imm (.int rs), .imm (.list (sumsV H)), .imm (.int (sumW A wz)), x2, x3, .unb, .unb, .unb, .unb, .unb, .unb]) :
    HTq qq W n (scAt 29) [.imm SV, .imm (.list (cl.map .int)), .imm (.list (flagN.map .str)), .imm NV, .imm (.int st), .imm (.list (pl.map .int)), .imm (.list ([s0, s1].map .int)), .imm TV, y, .unb, .imm (.dict (intsD wz)), .imm hv, .imm av, .imm (.int b), .imm (.int rs), .imm (.list (sumsV H)), .imm (.int 0), .unb, .unb, .unb, .unb, .unb, .unb, .unb, .unb] (sA 18) Post := by
  have F := F29
  have F' := F.fc
  let Inv : Nat → List Bd → Prop := fun i ρ => ∃ x1 x2 x3, ρ = [.imm SV, .imm (.list (cl.map .int)), .imm (.list (flagN.map .str)), .imm NV, .imm (.int st), .imm (.list (pl.map .int)), .imm (.list ([s0, s1].map .int)), .imm TV, y, x1, .imm (.dict (intsD wz)), .imm hv, .imm av, .imm (.int b), .imm (.int rs), .imm (.list (sumsV H)), .imm (.int (sumW A (wz.take i))), x2, x3, .unb, .unb, .unb, .unb, .unb, .unb] ∧ okB x1 ∧ okB x2 ∧ okB x3
  refine' HTq.for (vs := wz.map fun p => .int p.1) Inv 9 ?hi ?h0 ?hturn ?hend ?hx ?hfr ?hs
  case hi =>
    rw [show (wz.map fun p => V.int p.1) = (intsD wz).map fun p => V.int p.1 by unfold intsD; rw [List.map_map]; rfl]
    exact HI.v (v := .dict (intsD wz)) (by tm_at "x") OpI.dict
  case h0 => exact ⟨.unb, .unb, .unb, rfl, ⟨rfl, rfl⟩, ⟨rfl, rfl⟩, ⟨rfl, rfl⟩⟩
  case hx => rw [F.nm]; rfl
  case hfr => decide +kernel
  case hs => intro _ _; rfl
  case hend =>
    rintro ρ' ⟨x1, x2, x3, rfl, h1, h2, h3⟩
    rw [List.length_map, List.take_length]
    exact TX.toQ (HS.nil (hP x1 x2 x3 h1 h2 h3))
  case hturn =>
    rintro i v ρ' hvi ⟨x1, x2, x3, rfl, h1, h2, h3⟩
    rw [List.getElem?_map] at hvi
    obtain ⟨p, hp, rfl⟩ := Option.map_eq_some_iff.mp hvi
    have hm := List.mem_of_getElem? hp
    have hnx : sumW A (wz.take (i + 1)) = sumW A (wz.take i) + p.2 * A p.1 := take_fold (f := fun acc (p : Int × Int) => acc + p.2 * A p.1) (b := 0) hp
    generalize sumW A (wz.take i) = w at hnx ⊢
    show HSq qq W n (scAt 29) [.imm SV, .imm (.list (cl.map .int)), .imm (.list (flagN.map .str)), .imm NV, .imm (.int st), .imm (.list (pl.map .int)), .imm (.list ([s0, s1].map .int)), .imm TV, y, .imm (.int p.1), .imm (.dict (intsD wz)), .imm hv, .imm av, .imm (.int b), .imm (.int rs), .imm (.list (sumsV H)), .imm (.int w), x2, x3, .unb, .unb, .unb, .unb, .unb, .unb] lB _
    rw [lB_eq]
    refine HSq.app (Mid := fun o ρ' => o = .next ∧ ρ' = [.imm SV, .imm (.list (cl.map .int)), .imm (.list (flagN.map .str)), .imm NV, .imm (.int st), .imm (.list (pl.map .int)), .imm (.list ([s0, s1].map .int)), .imm TV, y, .imm (.int p.1), .imm (.dict (intsD wz)), .imm hv, .imm av, .imm (.int b), .imm (.int rs), .imm (.list (sumsV H)), .imm (.int w), .imm (.list ((spots p.1).map .int)), .imm (.int (A p.1)), .unb, .unb, .unb, .unb, .unb, .unb]) (TX.toQ (loopA hr hy h2 h3 (cP p hm).1 (cP p hm).2 (cA p hm) ⟨rfl, rfl⟩)) ?_ fun o ρ' h q => absurd h.1 q
    rintro ρ' ⟨_, rfl⟩
    refine HSq.app (HSq.one (loopB SQ (cJ p hm).1 (cJ p hm).2.1 (cJ p hm).2.2)) ?_ fun o ρ' h q => absurd h.1 q
    rintro ρ' ⟨_, rfl⟩
    exact TX.toQ (loopC (hg p hm).1 (hg p hm).2 ⟨_, _, _, by rw [hnx], okB_imm _, okB_imm _, okB_imm _⟩)
end

/-! part G29e -/
section
open PySem PySem.W PyProof.Rows PySem.Calls
set_option maxRecDepth 100000
set_option maxHeartbeats 2000000
variable {W : Wd} {n : Nat}
noncomputable def apZ (k : Int) : Int := if (spots k).getD 2 0 - (spots k).getD 0 0 == 2 then 2 else 4
theorem apZ_bits (k : Int) : Builtin.Int.intBits (apZ k) ≤ 1900 := by unfold apZ; split <;> decide
theorem ap_str (k : Int) : V.list [.str "1", .str (if (spots k).getD 2 0 - (spots k).getD 0 0 == 2 then "2" else "4")] = .list ([1, apZ k].map decV) := by unfold apZ; split <;> rfl
theorem blk6 {SV TV hv av : V} {x0 x1 x2 : Int} {cl pl : List Int} {st s0 s1 b rs w kL J : Int} {wz : List (Int × Int)} {H : Nat → Int} {y u1 u2 u3 : Bd} {Post : Out → List Bd → Prop} (hcl : cl.length = 8) (hr : Bi W "range" (.type "range")) (hso : Bi W "sorted" (.builtin "sorted")) (hle : Bi W "len" (.builtin "len")) (hstr : Bi W "str" (.type "str"))
    (hy : okB y) (hu2 : okB u2) (hu3 : okB u3) (hu1 : okB u1) (hwl : wz.length < 64) (hw0 : (wz.length : Int) ≠ 0) (hit : ((keysZ wz).map V.int)[((cl.getD 7 0).fmod wz.length).toNat]? = some (.int kL)) (hb0 : Builtin.Int.intBits x0 ≤ 8) (hb1 : Builtin.Int.intBits x1 ≤ 8) (hb2 : Builtin.Int.intBits x2 ≤ 8)
    (h3 : (spots kL).length = 3) (cSp : ∀ x, CallOk W n "_law_spell" [.int x, .int 0] (.val (.str (spellI x 0)))) (cLv : ∀ xs ys mc, xs.length ≤ 40 → ys.length ≤ 40 → CallOk W n "_levenshtein_distance" [.str (mk xs), .str (mk ys), .int mc] (.val (.int (levN xs ys mc))))
    (ht0 : levN (wordL (2 * kL) 0) (wordL kL 0) 0 = 1) (ht1 : levN (wordL kL 0) (wordL (2 * kL) 0) (4 + (cl.getD 7 0).fmod 3) = apZ kL) (cJ : CallOk W n "_law_jacobi" [.list ((spots kL).map .int), .list (sumsV H)] (.val (.int J)))
    (hP : ∀ pv tv : V, Post .next [.imm SV, .imm (.list (cl.map .int)), .imm (.list (flagN.map .str)), .imm (.list [.int x0, .int x1, .int x2]), .imm (.int st), .imm (.list (pl.map .int)), .imm (.list ([s0, s1].map .int)), .imm TV, y, u1, .imm (.dict (intsD wz)), .imm hv, .imm av, .imm (.int b), .imm (.int rs), .imm (.list (sumsV H)), .imm (.int w), u2, u3, .imm (.int kL), .imm (.list ((spots kL).map .int)), .imm pv, .imm tv, .imm (.int (x0 * x1 * x2 * J)), .unb]) :
    HS W n (scAt 29) [.imm SV, .imm (.list (cl.map .int)), .imm (.list (flagN.map .str)), .imm (.list [.int x0, .int x1, .int x2]), .imm (.int st), .imm (.list (pl.map .int)), .imm (.list ([s0, s1].map .int)), .imm TV, y, u1, .imm (.dict (intsD wz)), .imm hv, .imm av, .imm (.int b), .imm (.int rs), .imm (.list (sumsV H)), .imm (.int w), u2, u3, .unb, .unb, .unb, .unb, .unb, .unb] [sA 19, sA 20, sA 21, sA 22, sA 23, sA 24] Post := by
  have F := F29
  have F' := F.fc
  have hlt : 0 ≤ (cl.getD 7 0).fmod wz.length ∧ (cl.getD 7 0).fmod wz.length < 1000000 := by
    have hp : (0 : Int) < wz.length := by omega
    have h1 := Int.fmod_nonneg_of_pos (cl.getD 7 0) hp
    have h2 := Int.fmod_lt_of_pos (cl.getD 7 0) hp
    omega
  generalize hx : (cl.getD 7 0).fmod wz.length = ix at hlt hit
  refine' HS.asg F (v := .int kL) ?e1 ?p1 ?n1
  case p1 => tm_at "put"
  case e1 =>
    refine' HE.sub' (v := .list ((keysZ wz).map .int)) (i := .int ix) ?l1 ?r1 ?v1 (Op.itemL hlt.1 hlt.2 hit) ?hsl1
    case hsl1 => exact fun _ _ => ⟨_, rfl⟩
    case v1 => rfl
    case l1 =>
      refine' HE.toV (HE.bi F' ?m4 hso ?a4 (OpC.sortedZ hwl) ?he4 ?hpl4)
      case he4 => intro _; rfl
      case hpl4 => intro _; rfl
      case m4 => tm_at "mem"
      case a4 => tm_at "ha"
    case r1 =>
      rw [← hx]
      refine' HE.bin ?z1 ?z2 (Op.mod hw0)
      case z1 =>
        refine' HE.sub' (v := .list (cl.map .int)) (i := .int 7) ?l5 ?r5 ?v5 (Op.itemL (by decide) (by decide) (cell_at hcl 7 (by decide))) ?hsl5
        case hsl5 => exact fun _ _ => ⟨_, rfl⟩
        case l5 => tm_at "x"
        case r5 => tm_at "x"
        case v5 => rfl
      case z2 =>
        refine HE.castV (r := .int ((intsD wz).length : Nat)) ?_ (by rw [intsD_len])
        refine' HE.bi F' ?m6 hle ?a6 (OpC.lenD ?z6) ?he6 ?hpl6
        case he6 => intro _; rfl
        case hpl6 => intro _; rfl
        case m6 => tm_at "mem"
        case a6 => tm_at "ha"
        case z6 => rw [intsD_len]; omega
  case n1 =>
  refine' HS.asgComp F (out := (spots kL).map .int) ?e7 ?p7 ?n7 ?o7
  case p7 => tm_at "put"
  case o7 => simp only [oneL, noL, hy.1, hu1.1, hu2.1, hu3.1]; rfl
  case e7 =>
    unfold spots
    refine' CompR.mapA (as := r12) (fv := V.int) (caps := [none, some 19]) 0 (fun j => bitI kL j != 0) V.int ?hi ?ok ?him (fun b => [b, .imm (.int kL)]) ?hR ?hlen ?ht ?he ?how ?hx ?hfr ?hs
    case hR => intro _; rfl
    case hi => exact hi12 F' (by tm_at "mem") hr
    case ok => tm_at "ok"
    case him => tm_at "him"
    case hlen => decide
    case ht =>
      intro j hj
      have hj' := r12_lt j hj
      refine HTests.fc (nms := ["k", "lifted"]) (gl := []) (by tm_at "fc") fun G => HTests.one ?_
      unfold bitI
      tm_at "b"
      exact hj'.1
    case he =>
      intro j hj _
      refine HE.fc (nms := ["k", "lifted"]) (gl := []) (by tm_at "fc") fun G => ?_
      tm_at "x"
    case how => tm_at "how"
    case hx => decide +kernel
    case hfr => decide +kernel
    case hs => intro _ _; rfl
  case n7 =>
  refine' HS.asg F (v := .list [.str (mk (wordL kL 0)), .str (mk (wordL (2 * kL) 0))]) ?e8 ?p8 ?n8
  case p8 => tm_at "put"
  case e8 =>
    refine' HE.list' (HA.cons ?a8 (HA.cons ?a9 HA.nil)) (Nat.le_of_ble_eq_true rfl)
    case a8 =>
      rw [← spell_mk]
      refine' HE.fn F' ?m8 (HA.cons ?b8 (HA.cons ?c8 HA.nil)) (cSp kL) ?h8
      case m8 => tm_at "mem"
      case b8 => tm_at "x"
      case c8 => tm_at "x"
      case h8 => intro _; rfl
    case a9 =>
      rw [← spell_mk]
      refine' HE.fn F' ?m9 (HA.cons ?b9 (HA.cons ?c9 HA.nil)) (cSp (2 * kL)) ?h9
      case m9 => tm_at "mem"
      case c9 => tm_at "x"
      case h9 => intro _; rfl
      case b9 =>
        refine' HE.bin ?z9 ?z10 (Op.mul (IntMulOk.of_left (by decide)))
        case z9 => tm_at "x"
        case z10 => tm_at "x"
  case n8 =>
  refine' HS.asg F (v := .list ([1, apZ kL].map .int)) ?e10 ?p10 ?n10
  case p10 => tm_at "put"
  case e10 =>
    refine HE.castV (r := .list [.int (levN (wordL (2 * kL) 0) (wordL kL 0) 0), .int (levN (wordL kL 0) (wordL (2 * kL) 0) (4 + (cl.getD 7 0).fmod 3))]) ?_ (by rw [ht0, ht1]; rfl)
    refine' HE.list' (HA.cons ?a10 (HA.cons ?a11 HA.nil)) (Nat.le_of_ble_eq_true rfl)
    case a10 =>
      refine' HE.fn F' ?m10 (HA.cons ?b10 (HA.cons ?c10 (HA.cons ?d10 HA.nil))) (cLv _ _ 0 ?l10 ?l11) ?h10
      case m10 => tm_at "mem"
      case h10 => intro _; rfl
      case b10 => tm_at "x"
      case c10 => tm_at "x"
      case d10 => tm_at "x"
      case l10 => rw [wordL_len]; decide
      case l11 => rw [wordL_len]; decide
    case a11 =>
      refine' HE.fn F' ?m11 (HA.cons ?b11 (HA.cons ?c11 (HA.cons ?d11 HA.nil))) (cLv _ _ _ ?l12 ?l13) ?h11
      case m11 => tm_at "mem"
      case h11 => intro _; rfl
      case b11 => tm_at "x"
      case c11 => tm_at "x"
      case l12 => rw [wordL_len]; decide
      case l13 => rw [wordL_len]; decide
      case d11 =>
        refine' HE.bin ?z11 (HE.bin ?z12 ?z13 (Op.mod (by decide))) Op.add
        case z11 => tm_at "x"
        case z13 => tm_at "x"
        case z12 =>
          refine' HE.sub' (v := .list (cl.map .int)) (i := .int 7) ?l14 ?r14 ?v14 (Op.itemL (by decide) (by decide) (cell_at hcl 7 (by decide))) ?hsl14
          case hsl14 => exact fun _ _ => ⟨_, rfl⟩
          case l14 => tm_at "x"
          case r14 => tm_at "x"
          case v14 => rfl
  case n10 =>
  generalize V.list [.str (mk (wordL kL 0)), .str (mk (wordL (2 * kL) 0))] = pv
  refine' HS.ifN (c := false) ?t15 (by intro h; cases h) ?b15
  case t15 =>
    refine' HB.cmp (b := .list ([1, apZ kL].map decV)) ?l15 ?r15 (Op.neLZ (xs := [1, apZ kL]) rfl) ?m15
    case m15 => with_unfolding_all rfl
    case l15 =>
      refine CompR.hv (CompR.cast (out := ([1, apZ kL].filter fun _ => true).map decV) ?_ rfl)
      refine' CompR.mapA (as := [1, apZ kL]) (fv := V.int) (caps := [none]) 0 (fun _ => true) decV ?hi16 ?ok16 ?him16 (fun b => [b]) ?hR16 ?hlen16 ?ht16 ?he16 ?how16 ?hx16 ?hfr16 ?hs16
      case hR16 => intro _; rfl
      case hi16 => exact HI.v (v := .list ([1, apZ kL].map .int)) (by tm_at "x") OpI.list
      case ok16 => tm_at "ok"
      case him16 => tm_at "him"
      case hlen16 => exact Nat.le_of_ble_eq_true rfl
      case ht16 => intro _ _; exact HTests.nil
      case he16 =>
        intro z hz _
        have hzb : Builtin.Int.intBits z ≤ 1900 := by
          simp only [List.mem_cons, List.not_mem_nil, or_false] at hz
          rcases hz with rfl | rfl
          · decide
          · exact apZ_bits kL
        refine HE.fc (nms := ["n"]) (gl := ["str"]) (by tm_at "fc") fun G => ?_
        tm_at "x"
        exact hzb
      case how16 => tm_at "how"
      case hx16 => decide +kernel
      case hfr16 => decide +kernel
      case hs16 => intro _ _; rfl
    case r15 =>
      refine HE.castV ?_ (ap_str kL)
      refine' HE.list' (HA.cons HE.str (HA.cons ?a17 HA.nil)) (Nat.le_of_ble_eq_true rfl)
      case a17 =>
        refine' HE.iteV (c := ((spots kL).getD 2 0 - (spots kL).getD 0 0 == 2)) (v := .str "2") (w := .str "4") ?t17 ?a18 ?b18 ?u18
        case u18 => split <;> rfl
        case a18 => intro _; tm_at "x"
        case b18 => intro _; tm_at "x"
        case t17 =>
          refine' HB.cmp (HE.bin ?l19 ?l20 Op.sub) ?r19 Op.eq ?m19
          case m19 => with_unfolding_all rfl
          case r19 => tm_at "x"
          case l19 =>
            refine' HE.sub' (v := .list ((spots kL).map .int)) (i := .int 2) ?l21 ?r21 ?v21 (Op.itemL (by decide) (by decide) (itemI (i := 2) (by omega))) ?hsl21
            case hsl21 => exact fun _ _ => ⟨_, rfl⟩
            case l21 => tm_at "x"
            case r21 => tm_at "x"
            case v21 => rfl
          case l20 =>
            refine' HE.sub' (v := .list ((spots kL).map .int)) (i := .int 0) ?l22 ?r22 ?v22 (Op.itemL (by decide) (by decide) (itemI (i := 0) (by omega))) ?hsl22
            case hsl22 => exact fun _ _ => ⟨_, rfl⟩
            case l22 => tm_at "x"
            case r22 => tm_at "x"
            case v22 => rfl
  case b15 =>
  intro _
  generalize V.list ([1, apZ kL].map .int) = tv
  refine' HS.asg F (v := .int (x0 * x1 * x2 * J)) ?e23 ?p23 ?n23
  case p23 => tm_at "put"
  case n23 => exact HS.nil (hP pv tv)
  case e23 =>
    have h64 : Builtin.Int.intBits (x0 * x1 * x2) ≤ 64 := by tm_at "sz"
    have h20 : IntMulOk (x0 * x1) x2 := by tm_at "sz"
    have h21 : IntMulOk x0 x1 := by tm_at "sz"
    refine' HE.bin (HE.bin (HE.bin ?l24 ?l25 (Op.mul h21)) ?l26 (Op.mul h20)) ?l27 (Op.mul (IntMulOk.of_left h64))
    case l24 => tm_at "x"
    case l25 => tm_at "x"
    case l26 => tm_at "x"
    case l27 =>
      refine' HE.fn F' ?m27 (HA.cons ?a27 (HA.cons ?b27 HA.nil)) cJ ?h27
      case m27 => tm_at "mem"
      case h27 => intro _; rfl
      case a27 => tm_at "x"
      case b27 => tm_at "x"
theorem blkQ1 {qq : Env → Around → Prop} {SV TV hv av pv tv : V} {x0 x1 x2 : Int} {cl pl : List Int} {st s0 s1 b rs w kL pr A1 : Int} {wz : List (Int × Int)} {H : Nat → Int} {y u1 u2 u3 : Bd} (SQ : SplitQ qq W n b)
    (cA : CallOk W n "_law_alternant" [.list (((spots kL).map fun k => k + 1).map .int), .list [.int x0, .int x1, .int x2]] (.val (.int A1))) (cD : CallOk W n "_law_due" [.int pr, .int rs, .int b] (.val (dueV pr rs b))) (hR : SplR b (A1 + rs) pr rs) :
    HTq qq W n (scAt 29) [.imm SV, .imm (.list (cl.map .int)), .imm (.list (flagN.map .str)), .imm (.list [.int x0, .int x1, .int x2]), .imm (.int st), .imm (.list (pl.map .int)), .imm (.list ([s0, s1].map .int)), .imm TV, y, u1, .imm (.dict (intsD wz)), .imm hv, .imm av, .imm (.int b), .imm (.int rs), .imm (.list (sumsV H)), .imm (.int w), u2, u3, .imm (.int kL), .imm (.list ((spots kL).map .int)), .imm pv, .imm tv, .imm (.int pr), .unb] (sA 25) (fun o r => o = .next ∧ r = [.imm SV, .imm (.list (cl.map .int)), .imm (.list (flagN.map .str)), .imm (.list [.int x0, .int x1, .int x2]), .imm (.int st), .imm (.list (pl.map .int)), .imm (.list ([s0, s1].map .int)), .imm TV, y, u1, .imm (.dict (intsD wz)), .imm hv, .imm av, .imm (.int b), .imm (.int rs), .imm (.list (sumsV H)), .imm (.int w), u2, u3, .imm (.int kL), .imm (.list ((spots kL).map .int)), .imm pv, .imm tv, .imm (.int pr), .unb]) := by
  have F := F29
  have F' := F.fc
  have hsl := spots_len kL
  refine' SQ.ifS hR ?a1 ?r1 ?h1 ?m1
  case h1 => intro _; rfl
  case m1 => with_unfolding_all rfl
  case r1 =>
    refine' HE.fn F' ?m2 (HA.cons ?a2 (HA.cons ?a3 (HA.cons ?a4 HA.nil))) cD ?h2
    case h2 => intro _; rfl
    case m2 => tm_at "mem"
    case a2 => tm_at "x"
    case a3 => tm_at "x"
    case a4 => tm_at "x"
  case a1 =>
    refine' HA.cons (HE.bin ?z1 ?z2 Op.add) (HA.cons ?z3 HA.nil) ?z4
    case z4 => intro _; rfl
    case z2 => tm_at "x"
    case z3 => tm_at "x"
    case z1 =>
      refine' HE.fn F' ?m5 (HA.cons (CompR.hv (CompR.cast (out := ((spots kL).filter fun _ => true).map fun k => V.int (k + 1)) ?c5 ?d5)) (HA.cons ?a6 HA.nil) ?s5) cA ?h5
      case h5 => intro _; rfl
      case s5 => intro _; rfl
      case m5 => tm_at "mem"
      case a6 => tm_at "x"
      case d5 => rw [List.filter_eq_self.mpr (fun _ _ => rfl), List.map_map]; rfl
      case c5 =>
        refine' CompR.mapA (as := spots kL) (fv := V.int) (caps := [none]) 0 (fun _ => true) (fun k => V.int (k + 1)) ?hi6 ?ok6 ?him6 (fun b => [b]) ?hR6 ?hlen6 ?ht6 ?he6 ?how6 ?hx6 ?hfr6 ?hs6
        case hR6 => intro _; rfl
        case hi6 => exact HI.v (v := .list ((spots kL).map .int)) (by tm_at "x") OpI.list
        case ok6 => tm_at "ok"
        case him6 => tm_at "him"
        case hlen6 => omega
        case ht6 => intro _ _; exact HTests.nil
        case he6 =>
          intro j hj _
          refine HE.fc (nms := ["k"]) (gl := []) (by tm_at "fc") fun G => ?_
          tm_at "x"
        case how6 => tm_at "how"
        case hx6 => decide +kernel
        case hfr6 => decide +kernel
        case hs6 => intro _ _; rfl
noncomputable def pwZ (x0 x1 x2 s : Int) : Int := ([x0, x1, x2].map fun x => x ^ s.toNat).sum
theorem powE {x0 x1 x2 s : Int} {ρ : List Bd} {SL : List V} {elt : Expr} {x : Str} {xp : Pos} (hs : 0 ≤ s ∧ s ≤ 14) (hb0 : Builtin.Int.intBits x0 ≤ 8) (hb1 : Builtin.Int.intBits x1 ≤ 8) (hb2 : Builtin.Int.intBits x2 ≤ 8) {z : Int} (hz : z ∈ [x0, x1, x2]) : (Builtin.Int.intBits z : Int) * s ≤ 2 ^ 27 := by
  have h : Builtin.Int.intBits z ≤ 8 := by
    simp only [List.mem_cons, List.not_mem_nil, or_false] at hz
    rcases hz with rfl | rfl | rfl <;> assumption
  have h1 : (Builtin.Int.intBits z : Int) * s ≤ 8 * 14 := Int.mul_le_mul (by omega) hs.2 hs.1 (by decide)
  omega
theorem blk7 {SV TV hv av pv tv : V} {x0 x1 x2 : Int} {cl pl : List Int} {st s0 s1 b rs w kL pr : Int} {wz : List (Int × Int)} {H : Nat → Int} {y u1 u2 u3 : Bd} {Post : Out → List Bd → Prop} (hsu : Bi W "sum" (.builtin "sum")) (hs0 : 0 ≤ s0 ∧ s0 ≤ 14) (hs1 : 0 ≤ s1 ∧ s1 ≤ 14)
    (hb0 : Builtin.Int.intBits x0 ≤ 8) (hb1 : Builtin.Int.intBits x1 ≤ 8) (hb2 : Builtin.Int.intBits x2 ≤ 8) (hp : Builtin.Int.intBits (pwZ x0 x1 x2 s0) ≤ 64)
    (hP : Post .next [.imm SV, .imm (.list (cl.map .int)), .imm (.list (flagN.map .str)), .imm (.list [.int x0, .int x1, .int x2]), .imm (.int st), .imm (.list (pl.map .int)), .imm (.list ([s0, s1].map .int)), .imm TV, y, u1, .imm (.dict (intsD wz)), .imm hv, .imm av, .imm (.int b), .imm (.int rs), .imm (.list (sumsV H)), .imm (.int w), u2, u3, .imm (.int kL), .imm (.list ((spots kL).map .int)), .imm pv, .imm tv, .imm (.int pr), .imm (.int (pwZ x0 x1 x2 s0 * pwZ x0 x1 x2 s1))]) :
    HS W n (scAt 29) [.imm SV, .imm (.list (cl.map .int)), .imm (.list (flagN.map .str)), .imm (.list [.int x0, .int x1, .int x2]), .imm (.int st), .imm (.list (pl.map .int)), .imm (.list ([s0, s1].map .int)), .imm TV, y, u1, .imm (.dict (intsD wz)), .imm hv, .imm av, .imm (.int b), .imm (.int rs), .imm (.list (sumsV H)), .imm (.int w), u2, u3, .imm (.int kL), .imm (.list ((spots kL).map .int)), .imm pv, .imm tv, .imm (.int pr), .unb] [sA 26] Post := by
  have F := F29
  have F' := F.fc
  refine' HS.asg F (v := .int (pwZ x0 x1 x2 s0 * pwZ x0 x1 x2 s1)) ?e1 ?p1 ?n1
  case p1 => tm_at "put"
  case n1 => exact HS.nil hP
  case e1 =>
    refine' HE.bin ?l1 ?r1 (Op.mul (IntMulOk.of_left hp))
    case l1 =>
      refine' HE.bi F' ?m4 hsu ?a4 OpC.sumI ?he4 ?hpl4
      case he4 => intro _; rfl
      case hpl4 => intro _; rfl
      case m4 => tm_at "mem"
      case a4 =>
        refine' HA.cons (CompR.hv (CompR.cast (out := ([x0, x1, x2].filter fun _ => true).map fun x => V.int (x ^ s0.toNat)) ?c5 ?d5)) HA.nil ?s5
        case s5 => intro _; rfl
        case d5 => rw [List.filter_eq_self.mpr (fun _ _ => rfl), List.map_map]; rfl
        case c5 =>
          refine' CompR.mapA (as := [x0, x1, x2]) (fv := V.int) (caps := [none, some 6]) 0 (fun _ => true) (fun x => V.int (x ^ s0.toNat)) ?hi6 ?ok6 ?him6 (fun b => [b, .imm (.list ([s0, s1].map .int))]) ?hR6 ?hlen6 ?ht6 ?he6 ?how6 ?hx6 ?hfr6 ?hs6
          case hR6 => intro _; rfl
          case hi6 => exact HI.v (v := .list [.int x0, .int x1, .int x2]) (by tm_at "x") OpI.list
          case ok6 => tm_at "ok"
          case him6 => tm_at "him"
          case hlen6 => exact Nat.le_of_ble_eq_true rfl
          case ht6 => intro _ _; exact HTests.nil
          case he6 =>
            intro z hz _
            refine HE.fc (nms := ["x", "steps"]) (gl := []) (by tm_at "fc") fun G => ?_
            refine' HE.bin ?z7 ?z8 (Op.pow hs0.1 (powE (ρ := []) (SL := []) (elt := .Constant .none 0 default) (x := "") (xp := default) hs0 hb0 hb1 hb2 hz))
            case z7 => tm_at "x"
            case z8 =>
              refine' HE.sub' (v := .list ([s0, s1].map .int)) (i := .int 0) ?l9 ?r9 ?v9 (Op.itemL (by decide) (by decide) rfl) ?hsl9
              case hsl9 => exact fun _ _ => ⟨_, rfl⟩
              case l9 => tm_at "x"
              case r9 => tm_at "x"
              case v9 => rfl
          case how6 => tm_at "how"
          case hx6 => decide +kernel
          case hfr6 => decide +kernel
          case hs6 => intro _ _; rfl
    case r1 =>
      refine' HE.bi F' ?m14 hsu ?a14 OpC.sumI ?he14 ?hpl14
      case he14 => intro _; rfl
      case hpl14 => intro _; rfl
      case m14 => tm_at "mem"
      case a14 =>
        refine' HA.cons (CompR.hv (CompR.cast (out := ([x0, x1, x2].filter fun _ => true).map fun x => V.int (x ^ s1.toNat)) ?c15 ?d15)) HA.nil ?s15
        case s15 => intro _; rfl
        case d15 => rw [List.filter_eq_self.mpr (fun _ _ => rfl), List.map_map]; rfl
        case c15 =>
          refine' CompR.mapA (as := [x0, x1, x2]) (fv := V.int) (caps := [none, some 6]) 0 (fun _ => true) (fun x => V.int (x ^ s1.toNat)) ?hi16 ?ok16 ?him16 (fun b => [b, .imm (.list ([s0, s1].map .int))]) ?hR16 ?hlen16 ?ht16 ?he16 ?how16 ?hx16 ?hfr16 ?hs16
          case hR16 => intro _; rfl
          case hi16 => exact HI.v (v := .list [.int x0, .int x1, .int x2]) (by tm_at "x") OpI.list
          case ok16 => tm_at "ok"
          case him16 => tm_at "him"
          case hlen16 => exact Nat.le_of_ble_eq_true rfl
          case ht16 => intro _ _; exact HTests.nil
          case he16 =>
            intro z hz _
            refine HE.fc (nms := ["x", "steps"]) (gl := []) (by tm_at "fc") fun G => ?_
            refine' HE.bin ?z17 ?z18 (Op.pow hs1.1 (powE (ρ := []) (SL := []) (elt := .Constant .none 0 default) (x := "") (xp := default) hs1 hb0 hb1 hb2 hz))
            case z17 => tm_at "x"
            case z18 =>
              refine' HE.sub' (v := .list ([s0, s1].map .int)) (i := .int 1) ?l19 ?r19 ?v19 (Op.itemL (by decide) (by decide) rfl) ?hsl19
              case hsl19 => exact fun _ _ => ⟨_, rfl⟩
              case l19 => tm_at "x"
              case r19 => tm_at "x"
              case v19 => rfl
          case how16 => tm_at "how"
          case hx16 => decide +kernel
          case hfr16 => decide +kernel
          case hs16 => intro _ _; rfl
theorem blkQ2 {qq : Env → Around → Prop} {SV TV hv av pv tv : V} {x0 x1 x2 : Int} {cl pl : List Int} {st s0 s1 b rs w kL pr pw J : Int} {wz : List (Int × Int)} {H : Nat → Int} {y u1 u2 u3 : Bd} (SQ : SplitQ qq W n b)
    (cJ : CallOk W n "_law_jacobi" [.list (pl.map .int), .list (sumsV H)] (.val (.int J))) (hm : IntMulOk pw J) (cD : CallOk W n "_law_due" [.int (pw * J), .int rs, .int b] (.val (dueV (pw * J) rs b))) (hR : SplR b (w + rs) (pw * J) rs) :
    HTq qq W n (scAt 29) [.imm SV, .imm (.list (cl.map .int)), .imm (.list (flagN.map .str)), .imm (.list [.int x0, .int x1, .int x2]), .imm (.int st), .imm (.list (pl.map .int)), .imm (.list ([s0, s1].map .int)), .imm TV, y, u1, .imm (.dict (intsD wz)), .imm hv, .imm av, .imm (.int b), .imm (.int rs), .imm (.list (sumsV H)), .imm (.int w), u2, u3, .imm (.int kL), .imm (.list ((spots kL).map .int)), .imm pv, .imm tv, .imm (.int pr), .imm (.int pw)] (sA 27) (fun o r => o = .ret (.bool true)) := by
  have F := F29
  have F' := F.fc
  refine' SQ.ret hR ?a1 ?r1 ?h1 ?m1
  case h1 => intro _; rfl
  case m1 => with_unfolding_all rfl
  case a1 => tm_at "ha"
  case r1 =>
    refine' HE.fn F' ?m2 (HA.cons (HE.bin ?a2 ?a5 (Op.mul hm)) (HA.cons ?a3 (HA.cons ?a4 HA.nil))) cD ?h2
    case h2 => intro _; rfl
    case m2 => tm_at "mem"
    case a2 => tm_at "x"
    case a3 => tm_at "x"
    case a4 => tm_at "x"
    case a5 =>
      refine' HE.fn F' ?m6 (HA.cons ?a6 (HA.cons ?a7 HA.nil)) cJ ?h6
      case h6 => intro _; rfl
      case m6 => tm_at "mem"
      case a6 => tm_at "x"
      case a7 => tm_at "x"
end

/-! part D2 -/
section
open PySem PySem.W PyProof.Rows PySem.Calls
set_option maxRecDepth 100000
variable {W : Wd} {n : Nat}
theorem F2 : FF (scAt 2) ["a", "b", "n", "pad", "half_n", "mask", "b1", "b2", "q1", "r", "q2"] ["_DIV_LIMIT", "divmod", "_div3n2n"] := ⟨by decide +kernel, by decide +kernel, by decide +kernel⟩
theorem K2 : FnOk "_div2n1n" (parAt 2) (bodyAt 2) (scAt 2) ["a", "b", "n"] where
  nodup := by rw [F2.nm]; decide +kernel
  plain := by rw [F2.nm]; decide +kernel
  first := by rw [F2.nm]; rfl
  kind := by rfl
  co := by rfl
  gen := by rfl
  kinds := by rw [F2.nm]; decide +kernel
  cellk := by decide +kernel
  bind := fun pm cd doc xs h => by obtain ⟨a, b, c, rfl⟩ := len_3 h; rfl
theorem div2n1n_ok {a b : Int} {N : Nat} (D : DefAt W "_div2n1n" (parAt 2) (bodyAt 2) (scAt 2)) (hg : ∃ y, W.mg "_DIV_LIMIT" = some y ∧ Rep W.base.get? (.int 4000) y) (hdm : Bi W "divmod" (.builtin "divmod"))
    (h : (Builtin.Int.intBits a : Int) - N ≤ 4000) (hb : b ≠ 0) (hb' : b.natAbs.log2 < 9000) : CallOk W (n + 1) "_div2n1n" [.int a, .int b, .int N] (.val (.tuple [.int (a.fdiv b), .int (a.fmod b)])) := by
  refine CallOk.of D K2 rfl ?_
  have F := F2
  have F' := F.fc
  rw [F.nm]
  show HS W n (scAt 2) [.imm (.int a), .imm (.int b), .imm (.int N), .unb, .unb, .unb, .unb, .unb, .unb, .unb, .unb] (bodyAt 2) _
  refine' HS.ifN ?t ?ba ?bb
  case t => tm_at "b"
  case ba =>
    intro _
    refine' HS.ret ?hret ?hpost
    case hret =>
      tm_at "x"
      · exact hb
      · exact hb'
    case hpost => exact rfl
  case bb => intro e; exact absurd h (of_decide_eq_false e)
end

/-! part D4 -/
section
open PySem PySem.W PyProof.Rows PySem.Calls
set_option maxRecDepth 100000
variable {W : Wd} {n : Nat}
noncomputable def in4 := inAt 4 1
theorem FI4 : FC in4.2.2.1 ["x", "L", "R", "mid", "shift", "upper", "lower", "a_digits", "inner", "n"] [] := ⟨by decide +kernel, by decide +kernel⟩
theorem KI4 : CFn "inner" "_int2digits.<locals>.inner" in4.1 in4.2.1 in4.2.2.1 ["x", "L", "R"] where
  nodup := by rw [FI4.nm]; decide +kernel
  plain := by rw [FI4.nm]; decide +kernel
  kind := by rfl
  co := by rfl
  gen := by rfl
  kinds := by rw [FI4.nm]; decide +kernel
  nocell := by decide +kernel
  nocell' := by
    intro y h
    have := mem_of_lookup h
    revert this
    have : ∀ p ∈ in4.2.2.1.names, p.2 ≠ .cell := by decide +kernel
    intro h'; exact this _ h' rfl
  pars := by decide +kernel
  nn := by decide +kernel
  bind := fun cl pm cd doc ct xs h => by obtain ⟨a, b, c, rfl⟩ := len_3 h; rfl
theorem mid_eq (l r : Nat) : ((l : Int) + r).fdiv (2 ^ (1 : Int).toNat) = ((l + r) / 2 : Nat) := by
  rw [show (2 : Int) ^ (1 : Int).toNat = 2 from rfl, Int.fdiv_eq_ediv_of_nonneg _ (by omega)]; omega
theorem inner4 {fa al : Addr} {cl : List (Str × Addr)} {N len : Nat} (C : CloAt W "inner" "_int2digits.<locals>.inner" in4.1 in4.2.1 in4.2.2.1 fa cl) (K : Caps W cl [("a_digits", .obj al), ("inner", .obj fa), ("n", .int N)])
    (hsz : N * len ≤ 2 ^ 26) (hln : len ≤ 2 ^ 19) : ∀ (k l r : Nat) (x : Int) (zs : List Int), zs.length = len → l < r → r ≤ len → r - l ≤ 2 ^ k → 0 ≤ x → x < 2 ^ (N * (r - l)) →
    ∀ A f s vs m xs (Q : Value → Shared → Prop) E, Room (n + k + 1) A → Bs W f s.heap → (∀ a o, f a = some o → s.heap.get? a = some o) → s.heap.get? al = some (lobj vs m) → f al = none → Reps f (zs.map .int) vs → Reps f [.int x, .int l, .int r] xs →
    (∀ h' tk vs' m', OkA W al f s.heap h' → h'.get? al = some (lobj vs' m') → Reps f ((writeD N zs l (r - l) x).map .int) vs' → Q .none { s with heap := h', toks := tk }) → wpAny W.M A (call (.ref fa) xs) Q E s := by
    intro k
    refine Nat.strongRecOn k fun k IH => ?_
    intro l r x zs hzl hlr hr hk hx0 hx1
    intro A f s vs msz xs Q E hroom hb hs hal hfal hv hxs hQ
    have hF := FI4
    have hC := C
    obtain ⟨⟨fo, doc, pm, cdv, ct, g1, g2, c, o, t, us, g3, g4, g5, g6⟩, hcl⟩ := C
    have bk : ∀ b ob, W.base.get? b = some ob → s.heap.get? b = some ob := fun b ob e => hs b ob (hb.le b ob e)
    have hvl := hv.length
    rw [List.length_map, hzl] at hvl
    obtain ⟨y₁, y₂, y₃, rfl, r₁, r₂, r₃⟩ := hxs.three_inv
    obtain ⟨t₁, rfl⟩ := r₁.int_inv
    obtain ⟨t₂, rfl⟩ := r₂.int_inv
    obtain ⟨t₃, rfl⟩ := r₃.int_inv
    refine clo_call (n := n + k) (P := s.heap.get?) (f := f) (ρ := [.imm (.int x), .imm (.int l), .imm (.int r), .unb, .unb, .unb, .unb, .imm (.obj al), .imm (.obj fa), .imm (.int N)]) KI4 hroom hb hs (bk _ _ g1) g2 ⟨c, o, us, t, g3, bk _ _ g4, g5, g6⟩ rfl
      Pin.self (fun a e => e) (fun y c' e => ?_) (by rw [FI4.nm]; rfl) (fun i y b h1 h2 => ?_) fun env h₁ tk hcells hcode keep st => ?_
    · obtain ⟨⟨o, h1⟩, h2⟩ := hcl y c' e
      exact ⟨by rw [bk _ _ h1]; nofun, h2⟩
    · rw [FI4.nm] at h1
      have := rhoOk.at (names := ["x", "L", "R"]) (vs := [.int x, .int l, .int r]) (scope := in4.2.2.1) (l := [("a_digits", .obj al), ("inner", .obj fa), ("n", .int N)]) (ns := ["x", "L", "R", "mid", "shift", "upper", "lower", "a_digits", "inner", "n"]) (ρ := [.imm (.int x), .imm (.int l), .imm (.int r), .unb, .unb, .unb, .unb, .imm (.obj al), .imm (.obj fa), .imm (.int N)]) (by
        refine ⟨?_, ?_, ?_, ?_, ?_, ?_, ?_, ?_, ?_, ?_, trivial⟩
        · rw [if_pos (by decide)]; exact ⟨_, rfl, rfl⟩
        · rw [if_pos (by decide)]; exact ⟨_, rfl, rfl⟩
        · rw [if_pos (by decide)]; exact ⟨_, rfl, rfl⟩
        · rw [if_neg (by decide), if_neg (by decide +kernel)]
        · rw [if_neg (by decide), if_neg (by decide +kernel)]
        · rw [if_neg (by decide), if_neg (by decide +kernel)]
        · rw [if_neg (by decide), if_neg (by decide +kernel)]
        · rw [if_neg (by decide), if_pos (by decide +kernel)]; exact ⟨_, by simp, rfl⟩
        · rw [if_neg (by decide), if_pos (by decide +kernel)]; exact ⟨_, by simp, rfl⟩
        · rw [if_neg (by decide), if_pos (by decide +kernel)]; exact ⟨_, by simp, rfl⟩) i y b h1 h2
      split
      · rename_i hn
        rw [if_pos hn] at this
        obtain ⟨u, h3, rfl⟩ := this
        have : y = "x" ∨ y = "L" ∨ y = "R" := by simpa using hn
        rcases this with rfl | rfl | rfl
        · cases h3; exact ⟨_, rfl, .int _ _⟩
        · cases h3; exact ⟨_, rfl, .int _ _⟩
        · cases h3; exact ⟨_, rfl, .int _ _⟩
      · rename_i hn
        rw [if_neg hn] at this
        split
        · rename_i hf; rw [if_pos hf] at this
          obtain ⟨u, hm, rfl⟩ := this
          obtain ⟨c, z, q1, q2, q3⟩ := K _ hm
          exact ⟨c, some z, q1, q2.keeps bk, z, rfl, q3.mono hb.le⟩
        · rename_i hf; rw [if_neg hf] at this; exact this
    · have capt' : ∀ x c, (True → env.kindOf x ≠ some .cell) → env.cells.lookup x = some c → But s.heap.get? al c ≠ none := by
        intro y c' _ e
        rw [hcells] at e
        obtain ⟨⟨o, h1⟩, h2⟩ := hcl y c' e
        have hne : c' ≠ al := by
          rintro rfl
          have := hb.le _ _ h1
          rw [hfal] at this; cases this
        simp [But, hne, bk _ _ h1]
      have hal₁ := keep _ _ hal
      have hp2 := hv_p2 N
      refine wpAny_execs_cons ?_
      refine' ifW ?tt st.pre ?ta ?tb
      case tt => exact HB.cmp (by tm_at "x") (by tm_at "x") (by tm_at "op")
      case ta =>
        intro e f₂ h₂ tk₂ k₂
        have e' : l + 1 = r := hv_eq e
        subst e'
        have st₂ := st.step k₂
        have hal₂ := k₂.ext _ _ hal₁ notTab_l
        have hfal₂ := k₂.none' hfal hal₁
        refine wpAny_execs_cons ?_
        refine' setAt (s := { s with heap := h₂, toks := tk₂ }) (v := .int x) (k := l) (al := al) (vs := vs) (m := msz) st₂ ?se ?sx ?si hal₂ (hv_set hr hvl hln).1 (hv_set hr hvl hln).2.1 (hv_set hr hvl hln).2.2 ?sq
        case se => tm_at "x"
        case sx => tm_at "x"
        case si => tm_at "x"
        case sq =>
          intro f₃ h₃ h₄ tk₄ y m' k₃ ry hsame ha₃ ha₄
          refine wpAny_execs_cons (wpAny_Return_none ?_)
          have kk : Ok W f f₃ s.heap h₃ := ((Ok.heap hs keep).trans k₂).trans k₃
          have hfal₃ := k₃.none' hfal₂ hal₂
          refine hQ h₄ _ _ m' ((kk.toA hb hfal₃ ha₃ hsame).le kk.le) ha₄ ?_
          obtain ⟨t, rfl⟩ := Rep.int_inv ry
          have hw : writeD N zs l (l + 1 - l) x = zs.set l x := by
            rw [hv_one] at hx1 ⊢
            rw [Nat.mul_one] at hx1
            rw [List.set_eq_take_append_cons_drop, if_pos (hv_in hr hzl)]
            simp only [writeD, digsOf]
            rw [Int.emod_eq_of_lt hx0 hx1]; simp
          rw [hw, List.map_set]
          rw [show ((l : Int).toNat) = l from Int.toNat_natCast l]
          exact hv.set (.int _ _)
      case tb =>
        intro e f₂ h₂ tk₂ k₂
        have e' : l + 1 ≠ r := hv_ne e
        obtain ⟨k, rfl⟩ := hv_pos hlr e' hk
        rw [Nat.pow_succ] at hk
        obtain ⟨b1, b2, b3, b4⟩ := hv_mid hlr e' hk
        have hmid0 := mid_eq l r
        generalize (l + r) / 2 = m at *
        have ps := hv_p2 (N * (m - l))
        have hshift : ((m : Int) - l) * N = ((m - l) * N : Nat) := hv_shift b1
        have hb26 : N * (r - l) ≤ 2 ^ 26 := hv_len hr hsz
        have hspl : N * (r - l) = N * (m - l) + N * (r - m) := hv_spl b1 b2
        have hup : x.fdiv (2 ^ ((((m - l) * N : Nat) : Int).toNat)) = x / 2 ^ (N * (m - l)) := by rw [Int.toNat_natCast, fdiv_pow, Nat.mul_comm]
        have hlow : Builtin.bitXor x (x / 2 ^ (N * (m - l)) * 2 ^ ((((m - l) * N : Nat) : Int).toNat)) = x % 2 ^ (N * (m - l)) := by
          rw [Int.toNat_natCast, Nat.mul_comm (m - l) N, ← fdiv_pow]; exact bitXor_low hx0 _
        have hu0 : 0 ≤ x / 2 ^ (N * (m - l)) := Int.ediv_nonneg hx0 (Int.le_of_lt ps)
        have hu1 : x / 2 ^ (N * (m - l)) < 2 ^ (N * (r - m)) := by
          rw [hspl, Int.pow_add] at hx1
          exact Int.ediv_lt_of_lt_mul ps (by rw [Int.mul_comm]; exact hx1)
        have hl0 : 0 ≤ x % 2 ^ (N * (m - l)) := Int.emod_nonneg _ (Int.ne_of_gt ps)
        have hl1 : x % 2 ^ (N * (m - l)) < 2 ^ (N * (m - l)) := Int.emod_lt_of_pos _ ps
        have hbits := intBits_nn hu0 hu1
        have st₂ := st.step k₂
        refine wpAny_execs_nil ?_
        show wpAny W.M _ (execs (_ :: _) env) _ _ _
        refine' asgW (s := { s with heap := h₂, toks := tk₂ }) hF st₂ ?f1 ?e1 ?p1 ?n1
        case f1 => decide +kernel
        case e1 => exact HE.castV (HE.bin (HE.bin (by tm_at "x") (by tm_at "x") Op.add) HE.int (Op.shr (by decide))) (congrArg V.int hmid0)
        case p1 => tm_at "put"
        case n1 =>
          intro f₃ h₃ tk₃ g₃ st₃
          refine' asgW (s := { s with heap := h₃, toks := tk₃ }) hF st₃ ?f2 ?e2 ?p2 ?n2
          case f2 => decide +kernel
          case e2 => exact HE.castV (HE.bin (HE.bin (by tm_at "x") (by tm_at "x") Op.sub) (by tm_at "x") (Op.mul (hv_mul b1 b2 hr hln))) (congrArg V.int hshift)
          case p2 => tm_at "put"
          case n2 =>
            intro f₄ h₄ tk₄ g₄ st₄
            refine' asgW (s := { s with heap := h₄, toks := tk₄ }) hF st₄ ?f3 ?e3 ?p3 ?n3
            case f3 => decide +kernel
            case e3 => exact HE.castV (HE.bin (by tm_at "x") (by tm_at "x") (Op.shr (hv_nn _))) (congrArg V.int hup)
            case p3 => tm_at "put"
            case n3 =>
              intro f₅ h₅ tk₅ g₅ st₅
              refine' asgW (s := { s with heap := h₅, toks := tk₅ }) hF st₅ ?f4 ?e4 ?p4 ?n4
              case f4 => decide +kernel
              case e4 => exact HE.castV (HE.bin (by tm_at "x") (HE.bin (by tm_at "x") (by tm_at "x") (Op.shl (hv_nn _) (hv_bits hbits hspl hb26))) Op.xor) (congrArg V.int hlow)
              case p4 => tm_at "put"
              case n4 =>
                intro f₆ h₆ tk₆ g₆ st₆
                have hal₆ : h₆.get? al = some (lobj vs msz) := (st₆.pin al _ hal).1 notTab_l
                have hg := (((k₂.gr st.pin).trans g₃).trans g₄).trans (g₅.trans g₆)
                have hfal₆ : f₆ al = none := by
                  cases q : f₆ al with
                  | none => rfl
                  | some o =>
                    rcases hg.new al o q with q' | q'
                    · rw [hfal] at q'; cases q'
                    · rw [hal] at q'; cases q'
                have st₇ := st₆.free (But.le (al := al)) capt'
                have hiρ : ∀ b ∈ ([.imm (.int x), .imm (.int l), .imm (.int r), .imm (.int m), .imm (.int ((m - l) * N : Nat)), .imm (.int (x / 2 ^ (N * (m - l)))), .imm (.int (x % 2 ^ (N * (m - l)))), .imm (.obj al), .imm (.obj fa), .imm (.int N)] : List Bd), immOnly b = true := by
                  intro b hb
                  simp only [List.mem_cons, List.not_mem_nil, or_false] at hb
                  rcases hb with rfl | rfl | rfl | rfl | rfl | rfl | rfl | rfl | rfl | rfl <;> rfl
                have hBut : But s.heap.get? al al = none := by simp [But]
                refine wpAny_execs_cons ?_
                refine' callS (s := { s with heap := h₆, toks := tk₆ }) hC st₇ ?cx ?ca ?cc
                case cx => tm_at "x"
                case ca => tm_at "ha"
                case cc =>
                  intro f₇ h₇ tk₇ xs₇ k₇ r₇
                  have hal₇ := k₇.ext _ _ hal₆ notTab_l
                  have hfal₇ := k₇.none' hfal₆ hal₆
                  refine IH k (Nat.lt_succ_self k) l m _ zs hzl b1 (Nat.le_trans (Nat.le_of_lt b2) hr) b4 hl0 hl1 _ f₇ { s with heap := h₇, toks := tk₇ } vs msz xs₇ _ _ st₇.pre.room (st₇.pre.base.step k₇) k₇.sub hal₇ hfal₇ (hv.mono (hg.le.trans k₇.le)) r₇ fun h₈ tk₈ vs₈ m₈ a₈ hal₈ hv₈ => ?_
                  have st₈ := (st₇.step k₇).chI hiρ a₈ hBut hfal₇ hal₇
                  show wpAny W.M _ (execs (_ :: _) env) _ _ _
                  refine wpAny_execs_cons ?_
                  refine' callS (s := { s with heap := h₈, toks := tk₈ }) hC st₈ ?cx2 ?ca2 ?cc2
                  case cx2 => tm_at "x"
                  case ca2 => tm_at "ha"
                  case cc2 =>
                    intro f₉ h₉ tk₉ xs₉ k₉ r₉
                    have hal₉ := k₉.ext _ _ hal₈ notTab_l
                    have hfal₉ := k₉.none' hfal₇ hal₈
                    refine IH k (Nat.lt_succ_self k) m r _ (writeD N zs l (m - l) (x % 2 ^ (N * (m - l)))) (by rw [writeD_len (hv_wl b1 b2 hr hzl).1]; exact hzl) b2 hr b3 hu0 hu1 _ f₉ { s with heap := h₉, toks := tk₉ } vs₈ m₈ xs₉ _ _ st₈.pre.room (st₈.pre.base.step k₉) k₉.sub hal₉ hfal₉ (hv₈.mono k₉.le) r₉ fun h₁₀ tk₁₀ vs₁₀ m₁₀ a₁₀ hal₁₀ hv₁₀ => ?_
                    have st₁₀ := (st₈.step k₉).chI hiρ a₁₀ hBut hfal₉ hal₉
                    refine wpAny_execs_nil ?_
                    have two := writeD_two (N := N) (xs := zs) (l := l) (k₁ := m - l) (k₂ := r - m) (x := x) (hv_wl b1 b2 hr hzl).2
                    rw [(hv_two b1 b2).1, (hv_two b1 b2).2] at two
                    rw [two] at hv₁₀
                    have hle : Le f f₉ := (hg.le.trans k₇.le).trans k₉.le
                    refine hQ h₁₀ _ vs₁₀ m₁₀ (st₁₀.toA hle hal) hal₁₀ ?_
                    exact Reps.of_ints hv₁₀.ints

theorem F4 : FC (scAt 4) ["a", "n", "a_digits", "inner"] ["len"] := ⟨by decide +kernel, by decide +kernel⟩
theorem K4 : FnOk "_int2digits" (parAt 4) (bodyAt 4) (scAt 4) ["a", "n"] where
  nodup := by rw [F4.nm]; decide +kernel
  plain := by rw [F4.nm]; decide +kernel
  first := by rw [F4.nm]; rfl
  kind := by rfl
  co := by rfl
  gen := by rfl
  kinds := by rw [F4.nm]; decide +kernel
  cellk := by decide +kernel
  bind := fun pm cd doc xs h => by obtain ⟨a, b, rfl⟩ := len_2 h; rfl
noncomputable def ndig (N : Nat) (a : Int) : Nat := (Builtin.Int.intBits a + N - 1) / N
theorem nd_up {N : Nat} (hN : 0 < N) (a : Int) : Builtin.Int.intBits a ≤ N * ndig N a := by
  have := Nat.div_add_mod (Builtin.Int.intBits a + N - 1) N
  have h2 := Nat.mod_lt (Builtin.Int.intBits a + N - 1) hN
  unfold ndig; omega
theorem bits_pos {a : Int} (h : a ≠ 0) : 0 < Builtin.Int.intBits a := by
  unfold Builtin.Int.intBits
  rw [if_neg (by simpa using h)]
  exact Nat.succ_pos _
theorem nd_zero {N : Nat} (hN : 0 < N) : ndig N 0 = 0 := Nat.div_eq_of_lt (by show 0 + N - 1 < N; omega)
theorem nd_pos {N : Nat} (hN : 0 < N) {a : Int} (h : a ≠ 0) : 0 < ndig N a := by
  have := bits_pos h
  exact Nat.div_pos (by omega) hN
theorem int2digits_ok {c T : Addr} {a : Int} {N : Nat} (D : DefAtC W "_int2digits" (parAt 4) (bodyAt 4) (scAt 4) (.ref c)) (hT : (c, T, ("_int2digits.<locals>.inner" : Str)) ∈ W.tabs) (hlen : Bi W "len" (.builtin "len"))
    (ha : 0 ≤ a) (hN : 0 < N) (hN' : N < 2 ^ 20) (hsz : N * ndig N a ≤ 2 ^ 26) (hln : ndig N a ≤ 2 ^ 19) : CallOk W (n + 22) "_int2digits" [.int a, .int N] (.val (.list ((digsOf N a (ndig N a)).map .int))) := by
  refine CallOk.ofE (n := n + 21) D K4 rfl ?_
  intro env A P f s Q E hcode hqual st hQ
  rw [F4.nm] at st
  have F := F4
  have hFC := F4
  have hcells : ∀ y ∈ (["a_digits", "inner", "n"] : List Str), ∃ i : Nat, (vnames (scAt 4))[i]? = some y ∧ (scAt 4).names.lookup y = some .cell := by
    rw [F4.nm]
    intro y hy
    simp only [List.mem_cons, List.not_mem_nil, or_false] at hy
    rcases hy with rfl | rfl | rfl
    · exact ⟨2, rfl, by decide +kernel⟩
    · exact ⟨3, rfl, by decide +kernel⟩
    · exact ⟨1, rfl, by decide +kernel⟩
  have hfree : ∀ y, (∃ k, (y, k) ∈ in4.2.2.1.names ∧ k = NameKind.free) → y ∈ (["a_digits", "inner", "n"] : List Str) := by
    rintro y ⟨k, hm, rfl⟩
    have : ∀ p ∈ in4.2.2.1.names, p.2 = .free → p.1 ∈ (["a_digits", "inner", "n"] : List Str) := by decide +kernel
    exact this _ hm rfl
  change St _ W (n + 21) (scAt 4) [.imm (.int a), .imm (.int N), .unb, .unb] env A P f s.heap at st
  show wpAny W.M A (execs (_ :: _) env) Q E s
  have hdiv : ((Builtin.Int.intBits a : Int) + N - 1).fdiv N = (ndig N a : Nat) := by
    rw [Int.fdiv_eq_ediv_of_nonneg _ (by omega)]
    unfold ndig
    rw [Int.natCast_ediv]
    congr 1; omega
  refine' asgLW (xs := (List.replicate (ndig N a) 0).map .int) F st ?f1 ?e1 ?p1 ?n1
  case f1 => decide +kernel
  case e1 =>
    refine HE.cast (r := .freshL (List.replicate (((Builtin.Int.intBits a : Int) + N - 1).fdiv N).toNat (.int 0))) ?_ (by rw [hdiv]; simp)
    refine' HE.bin ?l ?r ?o
    case l => tm_at "x"
    case r =>
      tm_at "x"
      · omega
      · omega
    case o => exact Op.mulL (by rw [hdiv]; omega) (by rw [hdiv]; omega)
  case p1 => tm_at "put"
  case n1 =>
    intro f₁ h₁ tk₁ g₁ st₁
    show wpAny W.M A (execs (_ :: _) env) Q E _
    refine wpAny_execs_cons ?_
    refine def_run (s := { s with heap := h₁, toks := tk₁ }) (T := T) (i := 3) st₁ hcode hT ?q1 rfl rfl rfl ?q2 ?q3 ?q4 ?q5 ?q6
    case q1 =>
      unfold qualnameIn
      rw [hqual, show env.kindOf "inner" = some .cell from by show env.scope.names.lookup _ = _; rw [st.pre.eok.scope]; decide +kernel]
      rfl
    case q2 =>
      intro y hy hk
      obtain ⟨i, h1, h2⟩ := hcells y.1 (hfree y.1 ⟨y.2, hy, hk⟩)
      obtain ⟨c, o, h3, _⟩ := st.cellSome h1 h2
      rw [h3]; rfl
    case q3 => decide +kernel
    case q4 => rw [F4.nm]; rfl
    case q5 => decide +kernel
    case q6 =>
      intro fa cl doc pm cdv ct P' h' tk hcl1 hcl2 st' hmono hfa hcd
      change St _ W (n + 21) (scAt 4) [.imm (.int a), .imm (.int N), .mutL ((List.replicate (ndig N a) 0).map .int), .imm (.obj fa)] env A P' f₁ h' at st'
      have fin : ∀ f₂ h₂ tk₂, Gr P f f₂ → St (fun _ => True) W (n + 21) (scAt 4) [.imm (.int a), .imm (.int N), .mutL ((digsOf N a (ndig N a)).map .int), .imm (.obj fa)] env A P f₂ h₂ → wpAny W.M A (execs ((bodyAt 4).drop 3) env) Q E { s with heap := h₂, toks := tk₂ } := by
        intro f₂ h₂ tk₂ g₂ st₂
        have hs : HS W (n + 21) (scAt 4) [.imm (.int a), .imm (.int N), .mutL ((digsOf N a (ndig N a)).map .int), .imm (.obj fa)] ((bodyAt 4).drop 3) (fnPost (.list ((digsOf N a (ndig N a)).map .int))) := by
          refine' HS.fzL (nms := ["a", "n", "a_digits", "inner"]) "a_digits" ?fp ?fh ?fv ?fo
          case fp => tm_at "put"
          case fv => rfl
          case fo => rfl
          case fh =>
            refine' HS.ret ?hret ?hpost
            case hret => tm_at "x"
            case hpost => exact rfl
        exact hs env A P f₂ { s with heap := h₂, toks := tk₂ } Q E st₂ fun fl o ρ' f' h' tk g st' fo hp => hQ fl o ρ' f' h' tk (g₂.trans g) st' fo hp
      show wpAny W.M A (execs (_ :: _) env) Q E _
      refine wpAny_execs_cons ?_
      refine' ifW (s := { s with heap := h', toks := tk }) ?tt st'.pre ?ta ?tb
      case tt => exact HB.val (by tm_at "x") (by tm_at "tr")
      case tb =>
        intro e f₂ h₂ tk₂ k₂
        have e0 : a = 0 := by simpa using e
        refine wpAny_execs_nil ?_
        show wpAny W.M A (execs ((bodyAt 4).drop 3) env) Q E _
        refine fin f₂ h₂ tk₂ (g₁.trans ((k₂.gr st'.pin).base hmono)) ?_
        have hz : ndig N a = 0 := by
          subst e0
          exact nd_zero hN
        have := (st'.step k₂).free hmono st.capt
        rw [hz] at this ⊢
        exact this
      case ta =>
        intro e f₂ h₂ tk₂ k₂
        have e0 : a ≠ 0 := by simpa using e
        have hpos : 0 < ndig N a := nd_pos hN e0
        have hlt : a < 2 ^ (N * (ndig N a - 0)) := by
          refine Int.lt_of_lt_of_le (lt_intBits ha) ?_
          exact two_le (nd_up hN a)
        have st₂ := st'.step k₂
        have hfa₂ := k₂.ext _ _ hfa notTab_fn
        obtain ⟨x0, o0, en, hl, al, vs, msz, rfl, hal, hr, hf, hP⟩ := st₂.pre.vars 2 _ rfl
        have hx0 : x0 = "a_digits" := by
          rw [st.pre.eok.scope, F4.nm] at en; exact (Option.some.inj en).symm
        subst hx0
        refine wpAny_execs_cons ?_
        refine' callS' (s := { s with heap := h₂, toks := tk₂ }) hfa₂ rfl st₂ ?cx ?ca ?cc
        case cx => tm_at "x"
        case ca =>
          refine' HA.cons ?y1 (HA.cons ?y2 (HA.cons ?y3 HA.nil))
          case y1 => tm_at "x"
          case y2 => tm_at "x"
          case y3 =>
            refine' HE.bwL (nms := ["a", "n", "a_digits", "inner"]) (x := "a_digits") ?bp ?bh ?bv ?bo ?bl
            case bp => tm_at "put"
            case bv => rfl
            case bo => rfl
            case bh =>
              tm_at "x"
              simp; exact Nat.lt_of_le_of_lt hln (by decide)
            case bl => rfl
        case cc =>
          intro f₃ h₃ tk₃ xs k₃ r₃
          have hal₃ := k₃.ext _ _ hal notTab_l
          have hf₃ := k₃.none' hf hal
          have st₃ := st₂.step k₃
          have hide0 : ∀ b ∈ [al], f₃ b = none := fun b hb => by rw [List.mem_singleton.mp hb]; exact hf₃
          have hide1 : ∀ b ∈ [al], ∃ vs m, h₃.get? b = some (lobj vs m) := fun b hb => by rw [List.mem_singleton.mp hb]; exact ⟨_, _, hal₃⟩
          have hide2 : ∀ b ∈ [al], ∀ o, ¬ h₃.IsCell b o := fun b hb o hc => by rw [List.mem_singleton.mp hb] at hc; exact cell_not_list hc _ _ hal₃
          have away := st₃.pre.base.away hide0
          have hfa₃ := k₃.ext _ _ hfa₂ notTab_fn
          have hcd₃ : ∃ c' o t us, cdv = .ref c' ∧ h₃.get? c' = some o ∧ ¬ IsTab o ∧ o.data = .fields us ∧ us[1]? = some (.str "_int2digits.<locals>.inner" t) := by
            obtain ⟨c', o, t, us, q1, q2, q3, q4⟩ := hcd
            exact ⟨c', o, t, us, q1, (k₂.trans k₃).ext _ _ q2 q3, q3, q4⟩
          have C := st₃.clo (hide := [al]) hfree hcl1 hcl2 hcells hide1 away hfa₃ hcd₃
          have c1 : (scAt 4).names.lookup ("n" : Str) = some NameKind.cell := by decide +kernel
          have c2 : (scAt 4).names.lookup ("inner" : Str) = some NameKind.cell := by decide +kernel
          have d0 : (("a_digits" : Str), NameKind.free) ∈ in4.2.2.1.names := by decide +kernel
          have d1 : (("n" : Str), NameKind.free) ∈ in4.2.2.1.names := by decide +kernel
          have d2 : (("inner" : Str), NameKind.free) ∈ in4.2.2.1.names := by decide +kernel
          have K0 := st₃.caps (hide := [al]) (cl := cl) (l := [("inner", .obj fa), ("n", .int N)]) hide0 (by
            intro p hp
            rw [F4.nm]
            simp only [List.mem_cons, List.not_mem_nil, or_false] at hp
            rcases hp with rfl | rfl
            · exact ⟨3, rfl, rfl, c2⟩
            · exact ⟨1, rfl, rfl, c1⟩) (by
            intro p hp
            simp only [List.mem_cons, List.not_mem_nil, or_false] at hp
            rcases hp with rfl | rfl
            · exact hcl1 _ ⟨_, d2, rfl⟩
            · exact hcl1 _ ⟨_, d1, rfl⟩) hide2 away
          have hl₃ := hl.ext k₃.ext
          have K : Caps (W.grow h₃ [al] st₃.pre.bk away) cl [("a_digits", .obj al), ("inner", .obj fa), ("n", .int N)] := by
            intro p hp
            rcases List.mem_cons.mp hp with rfl | hp
            · rcases hl₃ with ⟨q, _⟩ | ⟨_, c', hc', hv'⟩
              · have : env.kindOf "a_digits" = some .cell := by show env.scope.names.lookup _ = _; rw [st.pre.eok.scope]; decide +kernel
                rw [this] at q; cases q
              · have hv2 := hv'
                obtain ⟨ob, q1, q2⟩ := hv'
                refine ⟨c', .ref al, (hcl1 _ ⟨_, d0, rfl⟩).trans hc', ⟨ob, st₃.pre.base.off_hid q1 (notTab_cell q2) (fun hm => hide2 c' hm _ hv2), q2⟩, .obj al⟩
            · exact K0 p hp
          have up := st₃.pre.base.up st₃.pre.sub hide0
          have hrr : Reps f₃ ((List.replicate (ndig N a) (0 : Int)).map .int) vs := hr.mono k₃.le
          refine inner4 (W := W.grow h₃ [al] st₃.pre.bk away) (n := n) (al := al) (len := ndig N a) C K hsz hln 19 0 (ndig N a) a (List.replicate (ndig N a) 0) (List.length_replicate ..) hpos (Nat.le_refl _) (by omega) ha hlt A (hideAll h₃ (W.hid [al])).get? { s with heap := h₃, toks := tk₃ } vs msz xs _ E
            (st₃.pre.room.mono (by omega)) (st₃.pre.base.grow st₃.pre.bk away) (fun b o e => of_hideAll _ e) hal₃ (hideAll_none _ (List.mem_append_left _ List.mem_cons_self)) (hrr.mono up) ?_ ?_
          · have := r₃.mono up
            simpa using this
          · intro h₄ tk₄ vs' m' a₄ hal₄ hv₄
            have okA : OkA W al f₃ h₃ h₄ := ⟨a₄.ext, a₄.tab, a₄.tabs, fun b o e => a₄.sub b o (up b o e)⟩
            have hw : writeD N (List.replicate (ndig N a) 0) 0 (ndig N a - 0) a = digsOf N a (ndig N a) := by simp [writeD]
            rw [hw] at hv₄
            have st₄ := st₃.chA (ρ' := [.imm (.int a), .imm (.int N), .mutL ((digsOf N a (ndig N a)).map .int), .imm (.obj fa)]) okA hP hf₃ hal₃ rfl (by
              intro i b' x o e1 e2 e3 e4
              match i with
              | 0 => have := e4 b' e1; cases e1; exact this
              | 1 => have := e4 b' e1; cases e1; exact this
              | 3 => have := e4 b' e1; cases e1; exact this
              | 2 =>
                cases e1
                rw [F4.nm] at e2; cases e2
                rw [Look.fun e3 hl₃]
                exact ⟨al, vs', m', rfl, hal₄, Reps.of_ints hv₄.ints, hf₃, hP⟩
              | i + 4 => simp at e1)
            refine wpAny_execs_nil ?_
            show wpAny W.M A (execs ((bodyAt 4).drop 3) env) Q E _
            exact fin f₃ h₄ _ (g₁.trans (((k₂.trans k₃).gr st'.pin).base hmono)) (st₄.free hmono st.capt)
end

/-! part D5 -/
section
open PySem PySem.W PyProof.Rows PySem.Calls
set_option maxRecDepth 100000
variable {W : Wd} {n : Nat}
local macro_rules | `(tactic| tm_at "x") => `(tactic| ((refine' CloAt.callV (by assumption) ?fx ?fa ?fo); (case' fx => tm_at "x"); (case' fa => tm_at "ha"); (case fo => assumption)))
noncomputable def in5 := inAt 5 0
theorem FI5 : FC in5.2.2.1 ["L", "R", "mid", "shift", "digits", "inner", "n"] [] := ⟨by decide +kernel, by decide +kernel⟩
theorem KI5 : CFn "inner" "_digits2int.<locals>.inner" in5.1 in5.2.1 in5.2.2.1 ["L", "R"] where
  nodup := by rw [FI5.nm]; decide +kernel
  plain := by rw [FI5.nm]; decide +kernel
  kind := by rfl
  co := by rfl
  gen := by rfl
  kinds := by rw [FI5.nm]; decide +kernel
  nocell := by decide +kernel
  nocell' := by
    intro y h
    have := mem_of_lookup h
    revert this
    have : ∀ p ∈ in5.2.2.1.names, p.2 ≠ .cell := by decide +kernel
    intro h'; exact this _ h' rfl
  pars := by decide +kernel
  nn := by decide +kernel
  bind := fun cl pm cd doc ct xs h => by obtain ⟨a, b, rfl⟩ := len_2 h; rfl
theorem mid_eq5 (l r : Nat) : ((l : Int) + r).fdiv (2 ^ (1 : Int).toNat) = ((l + r) / 2 : Nat) := by
  rw [show (2 : Int) ^ (1 : Int).toNat = 2 from rfl, Int.fdiv_eq_ediv_of_nonneg _ (by omega)]; omega
theorem inner5 {fa : Addr} {cl : List (Str × Addr)} {ds : List Int} {N : Nat} (C : CloAt W "inner" "_digits2int.<locals>.inner" in5.1 in5.2.1 in5.2.2.1 fa cl) (K : Caps W cl [("digits", .list (ds.map .int)), ("inner", .obj fa), ("n", .int N)])
    (hd : digs N ds) (hsz : N * ds.length ≤ 2 ^ 26) (hln : ds.length ≤ 2 ^ 19) : ∀ (k l r : Nat), l < r → r ≤ ds.length → r - l ≤ 2 ^ k → Op W (n + k + 1) (fun xs => call (.ref fa) xs) [.int l, .int r] (.val (.int (vd N ((ds.drop l).take (r - l))))) := by
    intro k
    refine Nat.strongRecOn k fun k IH => ?_
    intro l r hlr hr hk
    have hF := FI5
    refine CloAt.op (ρ := [.imm (.int l), .imm (.int r), .unb, .unb, .imm (.list (ds.map .int)), .imm (.obj fa), .imm (.int N)]) C K KI5 rfl (by rw [FI5.nm]; rfl) (fun i y b h1 h2 => ?_) ?_
    · rw [FI5.nm] at h1
      refine rhoOk.at (names := ["L", "R"]) (vs := [.int l, .int r]) (scope := in5.2.2.1) (l := [("digits", .list (ds.map .int)), ("inner", .obj fa), ("n", .int N)]) ?_ i y b h1 h2
      refine ⟨?_, ?_, ?_, ?_, ?_, ?_, ?_, trivial⟩
      · rw [if_pos (by decide)]; exact ⟨_, rfl, rfl⟩
      · rw [if_pos (by decide)]; exact ⟨_, rfl, rfl⟩
      · rw [if_neg (by decide), if_neg (by decide +kernel)]
      · rw [if_neg (by decide), if_neg (by decide +kernel)]
      · rw [if_neg (by decide), if_pos (by decide +kernel)]; exact ⟨_, by simp, rfl⟩
      · rw [if_neg (by decide), if_pos (by decide +kernel)]; exact ⟨_, by simp, rfl⟩
      · rw [if_neg (by decide), if_pos (by decide +kernel)]; exact ⟨_, by simp, rfl⟩
    · refine' HS.ifN ?t ?a ?b
      case t => exact HB.cmp (by tm_at "x") (by tm_at "x") (by tm_at "op")
      case a =>
        intro e
        have e' : l + 1 = r := hv_eq e
        have hlt := hv_lt e' hr
        have hi : (List.map V.int ds)[(l : Int).toNat]? = some (.int ds[l]) := by simp [List.getElem?_eq_getElem hlt]
        refine' HS.ret ?hret ?hpost
        case hret => exact HE.sub' (by tm_at "x") (by tm_at "x") rfl (Op.itemL (i := l) (hv_nn l) (hv_m hlt hln) hi)
        case hpost =>
          show V.int _ = _
          subst e'
          have hdr := List.drop_eq_getElem_cons hlt
          rw [hv_one, hdr]
          simp only [List.take_succ_cons, List.take_zero, vd]
          simp
      case b =>
        intro e
        have e' : l + 1 ≠ r := hv_ne e
        obtain ⟨k, rfl⟩ := hv_pos hlr e' hk
        rw [Nat.pow_succ] at hk
        obtain ⟨h1, h2, h3, h4⟩ := hv_mid hlr e' hk
        have hml := Nat.le_trans (Nat.le_of_lt h2) hr
        have ih₁ : Op W (n + (k + 1)) _ _ _ := IH k (Nat.lt_succ_self k) ((l + r) / 2) r h2 hr h3
        have ih₂ : Op W (n + (k + 1)) _ _ _ := IH k (Nat.lt_succ_self k) l ((l + r) / 2) h1 hml h4
        generalize hm : (l + r) / 2 = m at *
        have hmid : ((l : Int) + r).fdiv (2 ^ (1 : Int).toNat) = (m : Nat) := by rw [mid_eq5, hm]
        have hshift : ((m : Int) - l) * N = ((m - l) * N : Nat) := hv_shift h1
        have b1 := vd_bound N ((ds.drop m).take (r - m)) fun d q => hd d (List.mem_of_mem_drop (List.mem_of_mem_take q))
        have hl1 : ((ds.drop m).take (r - m)).length = r - m := hv_len1 hr
        have hl2 : ((ds.drop l).take (m - l)).length = m - l := hv_len1 hml
        rw [hl1] at b1
        have hb := hv_len (l := l) hr hsz
        refine' HS.asgC hF ?f1 ?e1 ?p1 ?n1
        case f1 => decide +kernel
        case e1 => exact HE.castV (HE.bin (HE.bin (by tm_at "x") (by tm_at "x") Op.add) HE.int (Op.shr (by decide))) (congrArg V.int hmid)
        case p1 => tm_at "put"
        case n1 =>
          refine' HS.asgC hF ?f1 ?e1 ?p1 ?n1
          case f1 => decide +kernel
          case e1 => exact HE.castV (HE.bin (HE.bin (by tm_at "x") (by tm_at "x") Op.sub) (by tm_at "x") (Op.mul (hv_mul h1 h2 hr hln))) (congrArg V.int hshift)
          case p1 => tm_at "put"
          case n1 =>
            refine' HS.ret ?hret ?hpost
            case hret =>
              tm_at "x"
              · exact hv_nn _
              · exact hv_bits (intBits_nn b1.1 b1.2) (hv_spl h1 h2) hb
            case hpost =>
              show V.int _ = V.int _
              have sp : (ds.drop l).take (r - l) = (ds.drop l).take (m - l) ++ (ds.drop m).take (r - m) := hv_join h1 h2
              rw [sp, vd_append, hl2]
              congr 1
              rw [Int.toNat_natCast, Nat.mul_comm (m - l) N, Int.mul_comm, Int.add_comm]

theorem F5 : FC (scAt 5) ["digits", "n", "inner"] ["len"] := ⟨by decide +kernel, by decide +kernel⟩
theorem K5 : FnOk "_digits2int" (parAt 5) (bodyAt 5) (scAt 5) ["digits", "n"] where
  nodup := by rw [F5.nm]; decide +kernel
  plain := by rw [F5.nm]; decide +kernel
  first := by rw [F5.nm]; rfl
  kind := by rfl
  co := by rfl
  gen := by rfl
  kinds := by rw [F5.nm]; decide +kernel
  cellk := by decide +kernel
  bind := fun pm cd doc xs h => by obtain ⟨a, b, rfl⟩ := len_2 h; rfl
theorem digits2int_ok {c T : Addr} {ds : List Int} {N : Nat} (D : DefAtC W "_digits2int" (parAt 5) (bodyAt 5) (scAt 5) (.ref c)) (hT : (c, T, ("_digits2int.<locals>.inner" : Str)) ∈ W.tabs) (hlen : Bi W "len" (.builtin "len"))
    (hd : digs N ds) (hsz : N * ds.length ≤ 2 ^ 26) (hln : ds.length ≤ 2 ^ 19) : CallOk W (n + 21) "_digits2int" [.list (ds.map .int), .int N] (.val (.int (vd N ds))) := by
  refine CallOk.ofE (n := n + 20) D K5 rfl ?_
  intro env A P f s Q E hcode hqual st hQ
  rw [F5.nm] at st
  have F := F5
  show wpAny W.M A (execs (_ :: _) env) Q E s
  refine wpAny_execs_cons ?_
  have hcells : ∀ y ∈ (["digits", "inner", "n"] : List Str), ∃ i : Nat, (vnames (scAt 5))[i]? = some y ∧ (scAt 5).names.lookup y = some .cell := by
    rw [F5.nm]
    intro y hy
    simp only [List.mem_cons, List.not_mem_nil, or_false] at hy
    rcases hy with rfl | rfl | rfl
    · exact ⟨0, rfl, by decide +kernel⟩
    · exact ⟨2, rfl, by decide +kernel⟩
    · exact ⟨1, rfl, by decide +kernel⟩
  have hfree : ∀ y, (∃ k, (y, k) ∈ in5.2.2.1.names ∧ k = NameKind.free) → y ∈ (["digits", "inner", "n"] : List Str) := by
    rintro y ⟨k, hm, rfl⟩
    have : ∀ p ∈ in5.2.2.1.names, p.2 = .free → p.1 ∈ (["digits", "inner", "n"] : List Str) := by decide +kernel
    exact this _ hm rfl
  refine def_run (T := T) (i := 2) st hcode hT ?q1 rfl rfl rfl ?q2 ?q3 ?q4 ?q5 ?q6
  case q1 =>
    unfold qualnameIn
    rw [hqual, show env.kindOf "inner" = some .cell from by show env.scope.names.lookup _ = _; rw [st.pre.eok.scope]; decide +kernel]
    rfl
  case q2 =>
    intro y hy hk
    obtain ⟨i, h1, h2⟩ := hcells y.1 (hfree y.1 ⟨y.2, hy, hk⟩)
    obtain ⟨c, o, h3, _⟩ := st.cellSome h1 h2
    rw [h3]; rfl
  case q3 => decide +kernel
  case q4 => rw [F5.nm]; rfl
  case q5 => decide +kernel
  case q6 =>
    intro fa cl doc pm cdv ct P' h' tk hcl1 hcl2 st' hmono hfa hcd
    have away := st'.pre.base.away (hide := []) (fun a ha => by cases ha)
    have C := st'.clo (hide := []) hfree hcl1 hcl2 hcells (fun a ha => by cases ha) away hfa hcd
    have c0 : (scAt 5).names.lookup ("digits" : Str) = some NameKind.cell := by decide +kernel
    have c1 : (scAt 5).names.lookup ("n" : Str) = some NameKind.cell := by decide +kernel
    have c2 : (scAt 5).names.lookup ("inner" : Str) = some NameKind.cell := by decide +kernel
    have d0 : (("digits" : Str), NameKind.free) ∈ in5.2.2.1.names := by decide +kernel
    have d1 : (("n" : Str), NameKind.free) ∈ in5.2.2.1.names := by decide +kernel
    have d2 : (("inner" : Str), NameKind.free) ∈ in5.2.2.1.names := by decide +kernel
    change St _ W (n + 20) (scAt 5) [.imm (.list (ds.map .int)), .imm (.int N), .imm (.obj fa)] env A P' f h' at st'
    have K := st'.caps (hide := []) (cl := cl) (l := [("digits", .list (ds.map .int)), ("inner", .obj fa), ("n", .int N)]) (fun a ha => by cases ha) (by
      intro p hp
      rw [F5.nm]
      simp only [List.mem_cons, List.not_mem_nil, or_false] at hp
      rcases hp with rfl | rfl | rfl
      · exact ⟨0, rfl, rfl, c0⟩
      · exact ⟨2, rfl, rfl, c2⟩
      · exact ⟨1, rfl, rfl, c1⟩) (by
      intro p hp
      simp only [List.mem_cons, List.not_mem_nil, or_false] at hp
      rcases hp with rfl | rfl | rfl
      · exact hcl1 _ ⟨_, d0, rfl⟩
      · exact hcl1 _ ⟨_, d2, rfl⟩
      · exact hcl1 _ ⟨_, d1, rfl⟩) (fun a ha => by cases ha) away
    show wpAny W.M A (execs [_] env) Q E _
    refine wpAny_execs_cons (wpAny_Return_some ?_)
    refine JX.grown (hide := []) (s := { s with heap := h', toks := tk }) st'.pre ?_ (fun a ha => by cases ha) (R := fun f h f' h' x => (RT.val (.int (vd N ds))).den f h f' h' x) (fun away' => ?_) fun x f'' h'' tk'' k r => ?_
    · intro b hb
      simp only [List.mem_cons, List.not_mem_nil, or_false] at hb
      rcases hb with rfl | rfl | rfl <;> rfl
    · have hlen' : Bi (W.grow h' [] st'.pre.bk away') "len" (.builtin "len") := ⟨hlen.1, hlen.2, hlen.3⟩
      refine' HE.iteV ?ht ?hta ?htb ?htu
      case ht => (refine' HB.val ?vx ?vt; (case' vx => tm_at "x"); (case' vt => tm_at "tr")); rw [List.length_map]; exact Nat.lt_of_le_of_lt hln (by decide)
      case hta =>
        intro e
        have hp : 0 < ds.length := by
          have : ds.length ≠ 0 := by simpa using e
          omega
        have hin : Op (W.grow h' [] st'.pre.bk away') (n + 20) (fun xs => call (.ref fa) xs) [.int 0, .int ((ds.map V.int).length : Nat)] (.val (.int (vd N ds))) := by
          have := inner5 (n := n) C K hd hsz hln 19 0 ds.length hp (Nat.le_refl _) (by omega)
          rw [List.length_map]
          rw [List.drop_zero, Nat.sub_zero, List.take_length] at this
          exact this
        tm_at "x"
        rw [List.length_map]; exact Nat.lt_of_le_of_lt hln (by decide)
      case htb => intro e; tm_at "x"
      case htu =>
        by_cases q : ds = []
        · subst q; rfl
        · have : ds.length ≠ 0 := fun e => q (List.length_eq_zero_iff.mp e)
          rw [List.length_map, if_pos (by simpa using this)]
    · have st'' := (st'.step k).free hmono st.capt
      exact hQ (.ret x) (.ret (.int (vd N ds))) _ f h'' tk'' (Gr.refl _ _) st'' (by obtain ⟨t, rfl⟩ := Rep.int_inv r; exact .int _ _) rfl
end

/-! part D6 -/
section
open PySem PySem.W PyProof.Rows PySem.Calls
set_option maxRecDepth 100000
variable {W : Wd} {n : Nat}
theorem F6 : FF (scAt 6) ["a", "b", "n", "a_digits", "r", "q_digits", "a_digit", "q_digit", "q"] ["_int2digits", "reversed", "_div2n1n", "_digits2int"] := ⟨by decide +kernel, by decide +kernel, by decide +kernel⟩
theorem K6 : FnOk "_divmod_pos" (parAt 6) (bodyAt 6) (scAt 6) ["a", "b"] where
  nodup := by rw [F6.nm]; decide +kernel
  plain := by rw [F6.nm]; decide +kernel
  first := by rw [F6.nm]; rfl
  kind := by rfl
  co := by rfl
  gen := by rfl
  kinds := by rw [F6.nm]; decide +kernel
  cellk := by decide +kernel
  bind := fun pm cd doc xs h => by obtain ⟨a, b, rfl⟩ := len_2 h; rfl
theorem dm_ix {i m z : Nat} (h : i < m) (hz : z = m) : m - 1 - i < z ∧ m - 1 - i + 1 = m - i ∧ m - (i + 1) = m - 1 - i := by
  obtain ⟨k, rfl⟩ := Nat.exists_eq_add_of_lt h
  rw [hz, Nat.add_sub_cancel, Nat.add_sub_cancel_left, Nat.add_sub_add_right, Nat.add_sub_cancel_left, Nat.add_assoc, Nat.add_sub_cancel_left]
  exact ⟨Nat.lt_of_lt_of_le (Nat.lt_succ_self k) (Nat.le_add_left ..), rfl, rfl⟩
theorem dm_4k {x N : Nat} (h : x ≤ N + N) (hN : N ≤ 4000) : (x : Int) - N ≤ 4000 := by omega
theorem dm_sh {r : Int} {N : Nat} {b : Int} (h0 : 0 ≤ r) (h1 : r < b) (h2 : b < 2 ^ N) (hN : N ≤ 4000) : (Builtin.Int.intBits r : Int) + (N : Int) ≤ 2 ^ 27 := by
  have : Builtin.Int.intBits r ≤ N := intBits_nn h0 (by omega)
  omega
theorem dm_s6 {z i m : Nat} (h : z = i) (h1 : i ≤ m) (h2 : m ≤ 2 ^ 19) : z ≤ 1000000 := by omega
theorem divmod_pos_ok {a b : Int} {N m : Nat} {ds : List Int} (D : DefAt W "_divmod_pos" (parAt 6) (bodyAt 6) (scAt 6)) (hrev : Bi W "reversed" (.type "reversed"))
    (hN : N = Builtin.Int.intBits b) (hds : ds = digsOf N a m) (c1 : CallOk W n "_int2digits" [.int a, .int N] (.val (.list (ds.map .int))))
    (c2 : ∀ t : Int, (Builtin.Int.intBits t : Int) - N ≤ 4000 → CallOk W n "_div2n1n" [.int t, .int b, .int N] (.val (.tuple [.int (t.fdiv b), .int (t.fmod b)])))
    (c3 : ∀ qs : List Int, digs N qs → qs.length = m → CallOk W n "_digits2int" [.list (qs.map .int), .int N] (.val (.int (vd N qs))))
    (ha : 0 ≤ a) (hb : 0 < b) (hN4 : N ≤ 4000) (hm : a < 2 ^ (N * m)) (hm6 : m ≤ 2 ^ 19) : CallOk W (n + 1) "_divmod_pos" [.int a, .int b] (.val (.tuple [.int (a / b), .int (a % b)])) := by
  refine CallOk.of D K6 rfl ?_
  have F := F6
  have F' := F.fc
  rw [F.nm]
  show HS W n (scAt 6) [.imm (.int a), .imm (.int b), .unb, .unb, .unb, .unb, .unb, .unb, .unb] (bodyAt 6) _
  refine' HS.asg F (v := .int N) ?e1 ?p1 ?n1
  case e1 => subst hN; tm_at "x"
  case p1 => tm_at "put"
  case n1 =>
  refine' HS.asg F ?e2 ?p2 ?n2
  case e2 => tm_at "x"
  case p2 => tm_at "put"
  case n2 =>
  refine' HS.asg F ?e3 ?p3 ?n3
  case e3 => tm_at "x"
  case p3 => tm_at "put"
  case n3 =>
  refine' HS.asgL F ?e4 ?p4 ?n4
  case e4 => exact HE.listF' HA.nil (by decide)
  case p4 => tm_at "put"
  case n4 =>
  have hbN : b < 2 ^ N := by rw [hN]; exact lt_intBits (Int.le_of_lt hb)
  have hdl : ds.length = m := by rw [hds, digsOf_len]
  have hdo : digs N ds := by rw [hds]; exact digsOf_ok N m a
  let Inv : Nat → List Bd → Prop := fun i ρ => ∃ (r : Int) (qs : List Int) (x y : Bd), ρ = [.imm (.int a), .imm (.int b), .imm (.int N), .imm (.list (ds.map .int)), .imm (.int r), .mutL (qs.map .int), x, y, .unb] ∧
    ((x = .unb ∧ y = .unb) ∨ ∃ u w, x = .imm u ∧ y = .imm w) ∧ qs.length = i ∧ i ≤ m ∧ 0 ≤ r ∧ r < b ∧ digs N qs ∧ vd N qs.reverse * b + r = vd N (ds.drop (m - i))
  refine' HS.thn (HT.for Inv 6 ?hi ?h0 ?hturn ?hend ?hx ?hfr ?hs)
  case hi => exact HI.reversed F' (by tm_at "mem") hrev (by tm_at "x")
  case h0 =>
    refine ⟨0, [], .unb, .unb, rfl, .inl ⟨rfl, rfl⟩, rfl, Nat.zero_le _, Int.le_refl _, hb, fun _ h => (by cases h), ?_⟩
    rw [Nat.sub_zero, ← hdl, List.drop_length]; simp [vd]
  case hx => rw [F.nm]; rfl
  case hfr => decide +kernel
  case hs => intro _ _; rfl
  case hturn =>
    rintro i v ρ' hv ⟨r, qs, x, y, rfl, hxy, hl, him, hr0, hr, hq, hvd⟩
    have hi : i < m := by
      have := (List.getElem?_eq_some_iff.mp hv).1
      simpa [hdl] using this
    have hvd' : v = .int ds[m - 1 - i] := by
      rw [List.getElem?_reverse (by simpa [hdl] using hi), List.getElem?_map, List.length_map, hdl, List.getElem?_eq_getElem (dm_ix hi hdl).1] at hv
      exact (Option.some.inj hv).symm
    subst hvd'
    obtain ⟨hix, hix2, hix3⟩ := dm_ix hi hdl
    have hdrop := List.drop_eq_getElem_cons hix
    rw [hix2] at hdrop
    have hdd := hdo ds[m - 1 - i] (List.getElem_mem _)
    generalize ds[m - 1 - i] = d at *
    obtain ⟨t1, t2, t3, t4, t5, t6, t7⟩ := div_turn (Q := vd N qs.reverse) hb hbN hr0 hr hdd.1 hdd.2
    have hcall := c2 (r * 2 ^ ((N : Int).toNat) + d) (by
      rw [Int.toNat_natCast]
      exact dm_4k (intBits_nn t1 t2) hN4)
    rw [Int.toNat_natCast, Int.fdiv_eq_ediv_of_nonneg _ (Int.le_of_lt hb), Int.fmod_eq_emod_of_nonneg _ (Int.le_of_lt hb)] at hcall
    have go : ∀ (y : Bd) (Post : Out → List Bd → Prop), (∀ ρ, Inv (i + 1) ρ → Post .next ρ) → (y = .unb ∨ ∃ w, y = .imm w) → HS W n (scAt 6) [.imm (.int a), .imm (.int b), .imm (.int N), .imm (.list (ds.map .int)), .imm (.int r), .mutL (qs.map .int), .imm (.int d), y, .unb] (forB 6 4) Post := by
      intro y Post hPost hy
      refine' HS.unT F ?e5 ?p5 ?n5
      case e5 =>
        refine' HE.fn F' ?m ?a ?c
        case m => tm_at "mem"
        case a =>
          refine' HA.cons ?g1 (HA.cons ?g2 (HA.cons ?g3 HA.nil))
          case g1 =>
            refine HE.castV (r := .int (r * 2 ^ ((N : Int).toNat) + d)) ?_ (by rw [Int.toNat_natCast])
            tm_at "x"
            · exact Int.natCast_nonneg _
            · exact dm_sh hr0 hr hbN hN4
          case g2 => tm_at "x"
          case g3 => tm_at "x"
        case c => exact hcall
      case p5 => tm_at "puts"
      case n5 =>
      refine' HS.app F ?e6 ?p6 ?s6 ?n6 ?v6 ?o6
      case e6 => tm_at "x"
      case p6 => tm_at "put"
      case v6 => rfl
      case o6 => rfl
      case s6 => rw [List.length_map]; exact dm_s6 hl him hm6
      case n6 =>
      refine HS.nil (hPost _ ?_)
      refine ⟨(r * 2 ^ N + d) % b, qs ++ [(r * 2 ^ N + d) / b], .imm (.int d), .imm (.int ((r * 2 ^ N + d) / b)), ?_, .inr ⟨_, _, rfl, rfl⟩, by simp [hl], hi, t5, t6, ?_, ?_⟩
      · rw [List.map_append]; rfl
      · intro q hq'
        rcases List.mem_append.mp hq' with h | h
        · exact hq q h
        · rw [List.mem_singleton.mp h]; exact ⟨t3, t4⟩
      · rw [List.reverse_append, hix3, hdrop]
        show ((r * 2 ^ N + d) / b + 2 ^ N * vd N qs.reverse) * b + (r * 2 ^ N + d) % b = d + 2 ^ N * vd N (ds.drop (m - i))
        rw [← hvd]; exact t7
    rcases hxy with ⟨rfl, rfl⟩ | ⟨u, w, rfl, rfl⟩
    · exact go _ _ (fun _ h => h) (.inl rfl)
    · exact go _ _ (fun _ h => h) (.inr ⟨w, rfl⟩)
  case hend =>
    rintro ρ' ⟨r, qs, x, y, rfl, hxy, hl, him, hr0, hr, hq, hvd⟩
    have hlm : ((ds.map V.int).reverse).length = m := by simp [hdl]
    rw [hlm] at hl hvd
    rw [Nat.sub_self, List.drop_zero, hds, vd_digsOf, Int.emod_eq_of_lt ha hm] at hvd
    obtain ⟨q1, q2⟩ := div_end hb hr0 hr hvd
    have hcall := c3 qs.reverse (fun d hd => hq d (List.mem_reverse.mp hd)) (by rw [List.length_reverse]; exact hl)
    have go : ∀ (x y : Bd), ((x = .unb ∧ y = .unb) ∨ ∃ u w, x = .imm u ∧ y = .imm w) → HS W n (scAt 6) [.imm (.int a), .imm (.int b), .imm (.int N), .imm (.list (ds.map .int)), .imm (.int r), .mutL (qs.map .int), x, y, .unb] ((bodyAt 6).drop 5) (fnPost (.tuple [.int (a / b), .int (a % b)])) := by
      intro x y hxy
      have ho : oneL [.imm (.int a), .imm (.int b), .imm (.int N), .imm (.list (ds.map .int)), .imm (.int r), .mutL (qs.map .int), x, y, .unb] 5 = true := by
        rcases hxy with ⟨rfl, rfl⟩ | ⟨u, w, rfl, rfl⟩ <;> rfl
      refine' HS.rev F ?p7 ?s7 ?n7 ?v7 ?o7
      case p7 => tm_at "put"
      case v7 => rfl
      case o7 => exact ho
      case s7 => rw [List.length_map]; exact dm_s6 hl (Nat.le_refl _) hm6
      case n7 =>
      rw [← List.map_reverse]
      refine' HS.fzL (nms := ["a", "b", "n", "a_digits", "r", "q_digits", "a_digit", "q_digit", "q"]) "q_digits" ?p8 ?n8 ?v8 ?o8
      case p8 => tm_at "put"
      case v8 => rfl
      case o8 => rcases hxy with ⟨rfl, rfl⟩ | ⟨u, w, rfl, rfl⟩ <;> rfl
      case n8 =>
      refine' HS.asg F ?e9 ?p9 ?n9
      case e9 => tm_at "x"
      case p9 => tm_at "put"
      case n9 =>
      refine' HS.ret ?hret ?hpost
      case hret => tm_at "x"
      case hpost => show V.tuple _ = V.tuple _; rw [q1, q2]
    exact HS.next (go x y hxy)
end

/-! part D15 -/
section
open PySem PySem.W PyProof.Rows PySem.Calls
set_option maxRecDepth 100000
variable {W : Wd} {n : Nat}
theorem F15 : FF (scAt 15) ["ch_a", "ch_b"] ["_CASE_COST", "_MOVE_COST"] := ⟨by decide +kernel, by decide +kernel, by decide +kernel⟩
theorem K15 : FnOk "_substitution_cost" (parAt 15) (bodyAt 15) (scAt 15) ["ch_a", "ch_b"] where
  nodup := by rw [F15.nm]; decide +kernel
  plain := by rw [F15.nm]; decide +kernel
  first := by rw [F15.nm]; rfl
  kind := by rfl
  co := by rfl
  gen := by rfl
  kinds := by rw [F15.nm]; decide +kernel
  cellk := by decide +kernel
  bind := fun pm cd doc xs h => by obtain ⟨a, b, rfl⟩ := len_2 h; rfl
noncomputable def subC (a b : Str) : Int := if a == b then 0 else if Txt.lower a == Txt.lower b then 1 else 2
theorem subcost_ok {a b : Str} (D : DefAt W "_substitution_cost" (parAt 15) (bodyAt 15) (scAt 15)) (hc : ∃ y, W.mg "_CASE_COST" = some y ∧ Rep W.base.get? (.int 1) y) (hm : ∃ y, W.mg "_MOVE_COST" = some y ∧ Rep W.base.get? (.int 2) y)
    (ha : a.length ≤ 1000000) (hb : b.length ≤ 1000000) : CallOk W (n + 1) "_substitution_cost" [.str a, .str b] (.val (.int (subC a b))) := by
  refine CallOk.of D K15 rfl ?_
  have F := F15
  have F' := F.fc
  rw [F.nm]
  show HS W n (scAt 15) [.imm (.str a), .imm (.str b)] (bodyAt 15) _
  refine' HS.ifN (c := a == b) ?t1 ?a1 ?b1
  case t1 => tm_at "b"
  case a1 =>
    intro e
    refine' HS.ret ?hret ?hpost
    case hret => tm_at "x"
    case hpost => show V.int _ = V.int _; unfold subC; rw [if_pos e]
  case b1 =>
  intro e
  refine' HS.ifN (c := Txt.lower a == Txt.lower b) ?t2 ?a2 ?b2
  case t2 =>
    tm_at "b"
    all_goals assumption
  case a2 =>
    intro e2
    refine' HS.ret ?hret ?hpost
    case hret => tm_at "x"
    case hpost => show V.int _ = V.int _; unfold subC; rw [if_neg (by rw [e]; nofun), if_pos e2]
  case b2 =>
    intro e2
    refine' HS.ret ?hret ?hpost
    case hret => tm_at "x"
    case hpost => show V.int _ = V.int _; unfold subC; rw [if_neg (by rw [e]; nofun), if_neg (by rw [e2]; nofun)]
end

/-! part N9 -/
section
open PySem PySem.W PyProof.Rows PySem.Calls
/-! the distance with small numbers, for the kernel -/
noncomputable def subF (c x : Nat) : Nat := bif Nat.beq c x then 0 else bif (Nat.beq (c + 32) x || Nat.beq (x + 32) c) then 1 else 2
noncomputable def minF (a b : Nat) : Nat := bif Nat.ble a b then a else b
/-- a row: from the pairs of a sign and the row's number -/
noncomputable def rowF (c : Nat) : List Nat → List Nat → Nat → Nat → Nat → List Nat × Nat × Nat
  | x :: xs, r :: rs, d, res, mn =>
    let res' := minF (minF res r + 2) (d + subF c x)
    let t := rowF c xs rs r res' (minF mn res')
    (res' :: t.1, t.2.1, t.2.2)
  | _, _, _, res, mn => ([], res, mn)
/-- all rows: the greatest of the rows' least numbers, the last number -/
noncomputable def rowsF (as : List Nat) : List Nat → Nat → List Nat → Nat → Nat → Nat × Nat
  | [], _, _, res, mx => (mx, res)
  | c :: bs, i, row, _, mx =>
    let t := rowF c as row (i * 2) (i * 2) 9223372036854775807
    rowsF as bs (i + 1) t.1 t.2.1 (bif Nat.ble t.2.2 mx then mx else t.2.2)
noncomputable def coreF (as bs : List Nat) : Nat × Nat :=
  let t := rowsF as bs 0 ((List.range as.length).map fun i => 2 + i * 2) 0 0
  (max ((bs.length - as.length) * 2) t.1, t.2)
/-- all pairs of signs priced alike -/
noncomputable def Alike (as bs : List Nat) : Prop := ∀ c ∈ bs, ∀ x ∈ as, subN c x = (subF c x : Nat)
theorem min2_nat (a b : Nat) : min2 (a : Int) (b : Int) = (minF a b : Nat) := by
  unfold min2 minF
  by_cases h : a ≤ b
  · rw [show Nat.ble a b = true from Nat.ble_eq_true_of_le h, if_neg (by omega)]; rfl
  · have : Nat.ble a b = false := by
      cases q : Nat.ble a b with
      | false => rfl
      | true => exact absurd (Nat.le_of_ble_eq_true q) h
    rw [this, if_pos (by omega)]; rfl
theorem row_eq (c : Nat) : ∀ (as row : List Nat) (d res mn : Nat), (∀ x ∈ as, subN c x = (subF c x : Nat)) →
    rowN c as (row.map fun (k : Nat) => (k : Int)) d res mn = ((rowF c as row d res mn).1.map fun (k : Nat) => (k : Int), ((rowF c as row d res mn).2.1 : Int), ((rowF c as row d res mn).2.2 : Int))
  | [], row, d, res, mn, h => by cases row <;> rfl
  | x :: as, [], d, res, mn, h => rfl
  | x :: as, r :: row, d, res, mn, h => by
    have hs := h x List.mem_cons_self
    have e1 : min2 (min2 (res : Int) (r : Int) + 2) ((d : Int) + subN c x) = (minF (minF res r + 2) (d + subF c x) : Nat) := by
      rw [hs, min2_nat, ← Int.natCast_add, show ((minF res r : Nat) : Int) + 2 = ((minF res r + 2 : Nat) : Int) from rfl, min2_nat]
    show ((min2 (min2 (res : Int) (r : Int) + 2) ((d : Int) + subN c x)) :: _, _, _) = _
    have e2 : (if min2 (min2 (res : Int) (r : Int) + 2) ((d : Int) + subN c x) < (mn : Int) then min2 (min2 (res : Int) (r : Int) + 2) ((d : Int) + subN c x) else (mn : Int)) = ((minF mn (minF (minF res r + 2) (d + subF c x)) : Nat) : Int) := by
      rw [e1]
      exact min2_nat mn _
    have ih := row_eq c as row r (minF (minF res r + 2) (d + subF c x)) (minF mn (minF (minF res r + 2) (d + subF c x))) fun y hy => h y (List.mem_cons_of_mem _ hy)
    simp only [e2]
    rw [e1, ih]
    rfl
theorem rows_eq (mc : Nat) (as : List Nat) : ∀ (bs : List Nat) (i : Nat) (row : List Nat) (res mx : Nat), mx ≤ mc → (∀ c ∈ bs, ∀ x ∈ as, subN c x = (subF c x : Nat)) →
    rowsN mc as bs i (row.map fun (k : Nat) => (k : Int)) res = (if (rowsF as bs i row res mx).1 > mc then mc + 1 else (rowsF as bs i row res mx).2 : Nat)
  | [], i, row, res, mx, hm, h => by
    show (res : Int) = ((if mx > mc then mc + 1 else res : Nat) : Int)
    rw [if_neg (by omega)]
  | c :: bs, i, row, res, mx, hm, h => by
    have hr := row_eq c as row (i * 2) (i * 2) 9223372036854775807 (h c List.mem_cons_self)
    have hr' : rowN c as (row.map fun (k : Nat) => (k : Int)) ((i : Int) * 2) ((i : Int) * 2) 9223372036854775807 = _ := hr
    show (if (rowN c as (row.map fun (k : Nat) => (k : Int)) ((i : Int) * 2) ((i : Int) * 2) 9223372036854775807).2.2 > (mc : Int) then (mc : Int) + 1 else rowsN mc as bs (i + 1) (rowN c as (row.map fun (k : Nat) => (k : Int)) ((i : Int) * 2) ((i : Int) * 2) 9223372036854775807).1 (rowN c as (row.map fun (k : Nat) => (k : Int)) ((i : Int) * 2) ((i : Int) * 2) 9223372036854775807).2.1) = _
    rw [hr']
    generalize hT : rowF c as row (i * 2) (i * 2) 9223372036854775807 = T
    have mono : ∀ (bs : List Nat) (i : Nat) (row : List Nat) (res mx : Nat), mx ≤ (rowsF as bs i row res mx).1 := by
      intro bs
      induction bs with
      | nil => intro i row res mx; exact Nat.le_refl _
      | cons c bs ih =>
        intro i row res mx
        refine Nat.le_trans ?_ (ih _ _ _ _)
        cases q : Nat.ble (rowF c as row (i * 2) (i * 2) 9223372036854775807).2.2 mx with
        | true => exact Nat.le_refl _
        | false =>
          show mx ≤ (rowF c as row (i * 2) (i * 2) 9223372036854775807).2.2
          apply Nat.le_of_lt
          apply Nat.lt_of_not_le
          intro hle
          rw [Nat.ble_eq_true_of_le hle] at q
          cases q
    have e3 : rowsF as (c :: bs) i row res mx = rowsF as bs (i + 1) T.1 T.2.1 (bif Nat.ble T.2.2 mx then mx else T.2.2) := by rw [← hT]; rfl
    rw [e3]
    by_cases hgt : (T.2.2 : Int) > (mc : Int)
    · rw [if_pos hgt]
      have h1 : Nat.ble T.2.2 mx = false := by
        cases q : Nat.ble T.2.2 mx with
        | false => rfl
        | true => have := Nat.le_of_ble_eq_true q; omega
      rw [h1]
      have := mono bs (i + 1) T.1 T.2.1 T.2.2
      rw [if_pos (by show _ > mc; simp only [cond_false]; omega)]
      rfl
    · rw [if_neg hgt]
      have hle : (bif Nat.ble T.2.2 mx then mx else T.2.2) ≤ mc := by
        cases Nat.ble T.2.2 mx <;> simp only [cond_true, cond_false] <;> omega
      exact rows_eq mc as bs (i + 1) T.1 T.2.1 _ hle fun d hd => h d (List.mem_cons_of_mem _ hd)
theorem core_eq (mc : Nat) (as bs : List Nat) (hl : as.length ≤ bs.length) (h : Alike as bs) : coreN mc as bs = (if (coreF as bs).1 > mc then mc + 1 else (coreF as bs).2 : Nat) := by
  unfold coreN coreF
  have e0 : ((bs.length : Int) - as.length) * 2 = (((bs.length - as.length) * 2 : Nat) : Int) := by omega
  have er : (List.range as.length).map (fun i : Nat => 2 + (i : Int) * 2) = ((List.range as.length).map fun i => 2 + i * 2).map fun (k : Nat) => (k : Int) := by
    rw [List.map_map]; rfl
  have hr := rows_eq mc as bs 0 ((List.range as.length).map fun i => 2 + i * 2) 0 0 (Nat.zero_le _) h
  rw [e0, er]
  dsimp only
  generalize rowsF as bs 0 ((List.range as.length).map fun i => 2 + i * 2) 0 0 = T at *
  by_cases h1 : (((bs.length - as.length) * 2 : Nat) : Int) > mc
  · rw [if_pos h1, if_pos (by show max _ _ > mc; omega)]; rfl
  · rw [if_neg h1]
    show rowsN mc as bs 0 _ ((0 : Nat) : Int) = _
    rw [hr]
    by_cases h2 : T.1 > mc
    · rw [if_pos h2, if_pos (by show max _ _ > mc; omega)]
    · rw [if_neg h2, if_neg (by show ¬ max _ _ > mc; omega)]
/-- what two words tell: nothing with a bound, or by a bound -/
noncomputable def levF (xs ys : List Nat) : Nat × Nat :=
  if xs = ys then (0, 0) else
    let t := trimN xs ys
    if t.1 = [] ∨ t.2 = [] then (0, 2 * (t.1.length + t.2.length)) else
      if t.2.length < t.1.length then coreF t.2 t.1 else coreF t.1 t.2
theorem trim_mem (xs ys : List Nat) : (∀ c ∈ (trimN xs ys).1, c ∈ xs) ∧ ∀ c ∈ (trimN xs ys).2, c ∈ ys := by
  unfold trimN
  exact ⟨fun c hc => List.mem_of_mem_drop (List.mem_of_mem_take hc), fun c hc => List.mem_of_mem_drop (List.mem_of_mem_take hc)⟩
theorem lev_eq (mc : Nat) (xs ys : List Nat) (h : ∀ c ∈ xs ++ ys, ∀ x ∈ xs ++ ys, subN c x = (subF c x : Nat)) : levN xs ys mc = (if (levF xs ys).1 > mc then mc + 1 else (levF xs ys).2 : Nat) := by
  unfold levN levF
  by_cases e : xs = ys
  · rw [if_pos e, if_pos e, if_neg (by omega)]; rfl
  · rw [if_neg e, if_neg e]
    dsimp only
    obtain ⟨h1, h2⟩ := trim_mem xs ys
    generalize trimN xs ys = t at *
    by_cases e1 : t.1 = [] ∨ t.2 = []
    · rw [if_pos e1, if_pos e1, if_neg (by omega)]; simp
    · rw [if_neg e1, if_neg e1]
      by_cases e2 : t.2.length < t.1.length
      · rw [if_pos e2, if_pos e2]
        exact core_eq mc _ _ (by omega) fun c hc x hx => h c (List.mem_append_left _ (h1 c hc)) x (List.mem_append_right _ (h2 x hx))
      · rw [if_neg e2, if_neg e2]
        exact core_eq mc _ _ (by omega) fun c hc x hx => h c (List.mem_append_right _ (h2 c hc)) x (List.mem_append_left _ (h1 x hx))
end

/-! part N10 -/
section
open PySem PySem.W PyProof.Rows PySem.Calls
set_option maxRecDepth 100000
noncomputable def rowG (c : Nat) (as : List Nat) : List Nat → Nat → Nat → Nat → (List Nat → Nat → Nat → Nat × Nat) → Nat × Nat :=
  List.rec (motive := fun _ => List Nat → Nat → Nat → Nat → (List Nat → Nat → Nat → Nat × Nat) → Nat × Nat)
    (fun _ _ res mn k => k [] res mn)
    (fun x _ ih row d res mn k => List.rec (motive := fun _ => Nat × Nat) (k [] res mn) (fun r rs _ =>
       (fun res' => ih rs r res' (minF mn res') (fun l a b => k (res' :: l) a b)) (minF (minF res r + 2) (d + subF c x))) row) as
noncomputable def rowsG (as : List Nat) (bs : List Nat) : Nat → List Nat → Nat → Nat → Nat × Nat :=
  List.rec (motive := fun _ => Nat → List Nat → Nat → Nat → Nat × Nat)
    (fun _ _ res mx => (mx, res))
    (fun c _ ih i row _ mx => rowG c as row (i * 2) (i * 2) 9223372036854775807 (fun l a b => ih (i + 1) l a (bif Nat.ble b mx then mx else b))) bs
theorem rowG_eq (c : Nat) : ∀ (as row : List Nat) (d res mn : Nat) (k : List Nat → Nat → Nat → Nat × Nat), rowG c as row d res mn k = k (rowF c as row d res mn).1 (rowF c as row d res mn).2.1 (rowF c as row d res mn).2.2
  | [], row, d, res, mn, k => by cases row <;> rfl
  | x :: as, [], d, res, mn, k => rfl
  | x :: as, r :: row, d, res, mn, k => rowG_eq c as row r (minF (minF res r + 2) (d + subF c x)) (minF mn (minF (minF res r + 2) (d + subF c x))) fun l a b => k (minF (minF res r + 2) (d + subF c x) :: l) a b
theorem rowsG_eq (as : List Nat) : ∀ (bs : List Nat) (i : Nat) (row : List Nat) (res mx : Nat), rowsG as bs i row res mx = rowsF as bs i row res mx
  | [], i, row, res, mx => rfl
  | c :: bs, i, row, res, mx => by
    show rowG c as row (i * 2) (i * 2) 9223372036854775807 (fun l a b => rowsG as bs (i + 1) l a (bif Nat.ble b mx then mx else b)) = _
    rw [rowG_eq, rowsG_eq as bs]
    rfl
/-- the words without like ends -/
noncomputable def preG (xs : List Nat) : List Nat → (List Nat → List Nat → Nat × Nat) → Nat × Nat :=
  List.rec (motive := fun _ => List Nat → (List Nat → List Nat → Nat × Nat) → Nat × Nat) (fun ys k => k [] ys)
    (fun x xs ih ys k => List.rec (motive := fun _ => Nat × Nat) (k (x :: xs) []) (fun y ys _ => bif Nat.beq x y then ih ys k else k (x :: xs) (y :: ys)) ys) xs
theorem preG_eq : ∀ (xs ys : List Nat) (k : List Nat → List Nat → Nat × Nat), preG xs ys k = k (xs.drop (preN xs ys)) (ys.drop (preN xs ys))
  | [], ys, k => by cases ys <;> rfl
  | x :: xs, [], k => rfl
  | x :: xs, y :: ys, k => by
    show (bif Nat.beq x y then preG xs ys k else k (x :: xs) (y :: ys)) = _
    by_cases e : x = y
    · subst e
      rw [show Nat.beq x x = true from Nat.beq_refl x, cond_true, preG_eq xs ys k]
      simp [preN]
    · rw [show Nat.beq x y = false from by cases q : Nat.beq x y; rfl; exact absurd (Nat.eq_of_beq_eq_true q) e, cond_false]
      simp [preN, e]
noncomputable def coreG (as bs : List Nat) : Nat × Nat :=
  (fun t : Nat × Nat => (max ((bs.length - as.length) * 2) t.1, t.2)) (rowsG as bs 0 ((List.range as.length).map fun i => 2 + i * 2) 0 0)
theorem coreG_eq (as bs : List Nat) : coreG as bs = coreF as bs := by unfold coreG coreF; rw [rowsG_eq]
noncomputable def levG (xs ys : List Nat) : Nat × Nat :=
  preG xs ys fun a b => preG a.reverse b.reverse fun a b => (fun a b =>
    bif (a.isEmpty || b.isEmpty) then (0, 2 * (a.length + b.length)) else bif Nat.ble a.length b.length then coreG a b else coreG b a) a.reverse b.reverse
theorem drop_rev (l : List Nat) (q : Nat) : (l.reverse.drop q).reverse = l.take (l.length - q) := by
  rw [List.drop_reverse, List.reverse_reverse]
theorem endG_eq (A B : List Nat) : (bif (A.isEmpty || B.isEmpty) then (0, 2 * (A.length + B.length)) else bif Nat.ble A.length B.length then coreG A B else coreG B A) =
    if A = [] ∨ B = [] then (0, 2 * (A.length + B.length)) else if B.length < A.length then coreF B A else coreF A B := by
  by_cases e1 : A = [] ∨ B = []
  · rw [if_pos e1]
    have : (A.isEmpty || B.isEmpty) = true := by
      rcases e1 with rfl | rfl <;> simp
    rw [this]; rfl
  · rw [if_neg e1]
    have : (A.isEmpty || B.isEmpty) = false := by
      rw [Bool.or_eq_false_iff]
      exact ⟨by cases A; exact absurd (.inl rfl) e1; rfl, by cases B; exact absurd (.inr rfl) e1; rfl⟩
    rw [this, cond_false]
    by_cases e2 : B.length < A.length
    · rw [if_pos e2, show Nat.ble A.length B.length = false from by cases q : Nat.ble A.length B.length; rfl; exact absurd (Nat.le_of_ble_eq_true q) (by omega), cond_false, coreG_eq]
    · rw [if_neg e2, show Nat.ble A.length B.length = true from Nat.ble_eq_true_of_le (by omega), cond_true, coreG_eq]
theorem levG_eq (xs ys : List Nat) : levG xs ys = levF xs ys := by
  unfold levG levF
  rw [preG_eq, preG_eq]
  simp only [drop_rev]
  by_cases e : xs = ys
  · subst e
    rw [if_pos rfl]
    have h1 : ∀ l : List Nat, preN l l = l.length := by
      intro l; induction l with
      | nil => rfl
      | cons x l ih => simp [preN, ih]
    rw [h1, List.drop_length]
    rfl
  · rw [if_neg e]
    exact endG_eq _ _
end

/-! part N20 -/
section
open PySem PySem.W PyProof.Rows PySem.Calls
set_option maxRecDepth 100000
set_option Elab.async false
noncomputable def plOkB (x : Int) : Bool := pfOk x && (JoinOk ", " (pfNames x) && (decide ((flagT x).length ≤ 100000) && (decide ((r12.filter fun k => ((spots x).map nmI).contains (nmI k)) = spots x) && decide ((spots x).map nmI = plW (flagT x)))))
theorem plOk_of {x : Int} (h : plOkB x = true) : PlOk x := by
  unfold plOkB at h
  simp only [Bool.and_eq_true, decide_eq_true_eq] at h
  obtain ⟨h1, h2, h3, h4, h5⟩ := h
  exact ⟨h1, h2, h3, by unfold plP; rw [← h5]; exact h4, h5⟩
noncomputable def st56 : List Int := [7, 11, 19, 35, 67, 131, 13, 21, 37, 69, 133, 25, 41, 73, 137, 49, 81, 145, 97, 161, 193, 14, 22, 38, 70, 134, 26, 42, 74, 138, 50, 82, 146, 98, 162, 194, 28, 44, 76, 140, 52, 84, 148, 100, 164, 196, 56, 88, 152, 104, 168, 200, 112, 176, 208, 224]
noncomputable def pas : List Int := [1, 2, 3, 4, 5, 6, 7, 8, 10, 12, 14, 16, 20, 24, 28, 32, 40, 48, 56, 64, 80, 96, 112, 128, 160, 192, 224]
noncomputable def k165 : List Int := [7, 11, 19, 35, 67, 131, 259, 515, 1027, 13, 21, 37, 69, 133, 261, 517, 1029, 25, 41, 73, 137, 265, 521, 1033, 49, 81, 145, 273, 529, 1041, 97, 161, 289, 545, 1057, 193, 321, 577, 1089, 385, 641, 1153, 769, 1281, 1537, 14, 22, 38, 70, 134, 262, 518, 1030, 26, 42, 74, 138, 266, 522, 1034, 50, 82, 146, 274, 530, 1042, 98, 162, 290, 546, 1058, 194, 322, 578, 1090, 386, 642, 1154, 770, 1282, 1538, 28, 44, 76, 140, 268, 524, 1036, 52, 84, 148, 276, 532, 1044, 100, 164, 292, 548, 1060, 196, 324, 580, 1092, 388, 644, 1156, 772, 1284, 1540, 56, 88, 152, 280, 536, 1048, 104, 168, 296, 552, 1064, 200, 328, 584, 1096, 392, 648, 1160, 776, 1288, 1544, 112, 176, 304, 560, 1072, 208, 336, 592, 1104, 400, 656, 1168, 784, 1296, 1552, 224, 352, 608, 1120, 416, 672, 1184, 800, 1312, 1568, 448, 704, 1216, 832, 1344, 1600, 896, 1408, 1664, 1792]
/-- the distance, as turns go -/
noncomputable def levT (s m p sk : Int) : Nat × Nat := if p.fmod 2 = 0 then levG (wordL s sk) (wordL m sk) else levG (wordL m sk) (wordL s sk)
noncomputable def noB (r : Nat × Nat) (due : Int) (b : Nat) : Bool := (fun t : Nat => !(Nat.beq t 2) && (decide ((t : Int) = due) || (decide (b < t) && decide ((t : Int) < due)))) (bif Nat.ble r.1 b then r.2 else b + 1)
noncomputable def turnB (s p step sk : Int) : Bool :=
  bif goZ s p step then (fun r : Nat × Nat => Nat.ble r.1 2 && Nat.beq r.2 2) (levT s (movedZ s p step) p sk) && pas.contains (Builtin.bitAnd s (movedZ s p step - s))
  else (fun (r : Nat × Nat) (due : Int) => noB r due 2 && (noB r due 3 && (noB r due 4 && noB r due 5))) (levT s (movedZ s p step) p sk) (dueW s (movedZ s p step))
noncomputable def staB (s : Int) : Bool := ([0, 1, 3] : List Int).all fun sk => ([1, 2, 3] : List Int).all fun step => (spots s).all fun p => turnB s p step sk
noncomputable def cfgB (st s0 s1 : Int) : Bool :=
  (fun t1 : List (Int × Int) => t1.all (fun p => st56.contains p.1 && decide (p.2.natAbs ≤ 100)) &&
    (fun t2 : List (Int × Int) => decide (t2.length < 64) && (decide (tidyZ t2 = tidyZ (allZ (plcZ st) s0 s1 3)) && (!(tidyZ t2).isEmpty && (tidyZ t2).all (fun p => k165.contains p.1 && decide (p.2.natAbs ≤ 100))))) (onwZ t1 s1)) (onwZ [(st, 1)] s0)
noncomputable def keyB (k : Int) : Bool := pfOk k && (JoinOk ", " (pfNames k) && (decide (pfNames k = (spots k).map nmI) && (decide ((spots k).length = 3) && ((spots k).all (fun j => decide (0 ≤ j ∧ j ≤ 10)) &&
  (decide ((levG (wordL (2 * k) 0) (wordL k 0)).1 > 0) && (fun r : Nat × Nat => Nat.ble r.1 4 && decide ((r.2 : Int) = apZ k)) (levG (wordL k 0) (wordL (2 * k) 0)))))))
noncomputable def rowB (row : List Int) : Bool :=
  if apartZ row then (fun (sp : List Int) (t : Nat) => decide (sp.length = 3) && ((decide (row = [sp.getD 0 0, sp.getD 1 0, sp.getD 2 0]) && decide (t % 2 = 0)) || (decide (row = [sp.getD 0 0, sp.getD 2 0, sp.getD 1 0]) && decide (t % 2 = 1)) || (decide (row = [sp.getD 1 0, sp.getD 0 0, sp.getD 2 0]) && decide (t % 2 = 1)) || (decide (row = [sp.getD 1 0, sp.getD 2 0, sp.getD 0 0]) && decide (t % 2 = 0)) || (decide (row = [sp.getD 2 0, sp.getD 0 0, sp.getD 1 0]) && decide (t % 2 = 0)) || (decide (row = [sp.getD 2 0, sp.getD 1 0, sp.getD 0 0]) && decide (t % 2 = 1)))) (spots (stateZ row)) (turnedZ row).toNat
  else decide (row.getD 0 0 = row.getD 1 0) || (decide (row.getD 0 0 = row.getD 2 0) || decide (row.getD 1 0 = row.getD 2 0))
/-- a start, as the law looks at it -/
noncomputable def startB (st : Int) : Bool := pfOk (-1 - st) && (JoinOk ", " (pfNames (-1 - st)) && (decide (pfNames (-1 - st) = holesL (plcZ st)) && (decide (Builtin.bitAnd st (-1 - st) = 0) && (decide ((plcZ st).length = 3) && ((plcZ st).all (fun j => decide (0 ≤ j ∧ j ≤ 4) && r32.contains j) &&
  (([0, 1, 2, 3] : List Int).all fun c => pfOk (st + 2 ^ (32 + c).toNat) && (JoinOk ", " (pfNames (st + 2 ^ (32 + c).toNat)) && decide (pfNames (st + 2 ^ (32 + c).toNat) = aboveL (plcZ st) c))))))))
theorem zero_ok : pfOk 0 = true ∧ JoinOk ", " (pfNames 0) = true ∧ Txt.join ", " (pfNames 0) = "0x0" := by decide +kernel
theorem start_all : (startL.all startB) = true := by decide +kernel
theorem sta_all : (st56.all fun s => staB s) = true := by decide +kernel
theorem pl_all : ((st56 ++ pas).all plOkB) = true := by decide +kernel
theorem cfg_all : (startL.all fun st => ([1, 2, 3] : List Int).all fun a => ([1, 2, 3] : List Int).all fun b => cfgB st a b) = true := by decide +kernel
theorem key_all : (k165.all fun k => keyB k) = true := by decide +kernel
theorem row_all : ((rangeInts 0 1 11).all fun a => (rangeInts 0 1 11).all fun b => (rangeInts 0 1 11).all fun c => rowB [a, b, c]) = true := by decide +kernel
noncomputable def alph52 : List Nat := (List.range 26).map (65 + ·) ++ (List.range 26).map (97 + ·)
theorem alph52_sub : ∀ c ∈ alph52, ∀ x ∈ alph52, subN c x = (subF c x : Nat) := by decide +kernel
end

/-! part N22 -/
section
open PySem PySem.W PyProof.Rows PySem.Calls
/-! determinants -/
theorem det_mul (a0 a1 a2 b0 b1 b2 c0 c1 c2 p0 p1 p2 q0 q1 q2 r0 r1 r2 : Int) :
    det3 (a0 * p0 + a1 * p1 + a2 * p2) (b0 * p0 + b1 * p1 + b2 * p2) (c0 * p0 + c1 * p1 + c2 * p2)
      (a0 * q0 + a1 * q1 + a2 * q2) (b0 * q0 + b1 * q1 + b2 * q2) (c0 * q0 + c1 * q1 + c2 * q2)
      (a0 * r0 + a1 * r1 + a2 * r2) (b0 * r0 + b1 * r1 + b2 * r2) (c0 * r0 + c1 * r1 + c2 * r2) = det3 p0 p1 p2 q0 q1 q2 r0 r1 r2 * det3 a0 a1 a2 b0 b1 b2 c0 c1 c2 := by
  unfold det3; grind
theorem det_van (x y z : Int) : det3 1 (-(y + z)) (y * z) 1 (-(x + z)) (x * z) 1 (-(x + y)) (x * y) = det3 1 x (x ^ 2) 1 y (y ^ 2) 1 z (z ^ 2) := by
  unfold det3; grind
theorem det_step (a0 a1 a2 b0 b1 b2 c0 c1 c2 u v w : Int) :
    det3 (a0 * u) a1 a2 (b0 * v) b1 b2 (c0 * w) c1 c2 + det3 a0 (a1 * u) a2 b0 (b1 * v) b2 c0 (c1 * w) c2 + det3 a0 a1 (a2 * u) b0 b1 (b2 * v) c0 c1 (c2 * w) = (u + v + w) * det3 a0 a1 a2 b0 b1 b2 c0 c1 c2 := by
  unfold det3; grind
theorem det_up (a0 a1 a2 b0 b1 b2 c0 c1 c2 u v w : Int) : det3 (a0 * u) (a1 * u) (a2 * u) (b0 * v) (b1 * v) (b2 * v) (c0 * w) (c1 * w) (c2 * w) = u * v * w * det3 a0 a1 a2 b0 b1 b2 c0 c1 c2 := by
  unfold det3; grind
theorem det_T (a0 a1 a2 b0 b1 b2 c0 c1 c2 : Int) : det3 a0 b0 c0 a1 b1 c1 a2 b2 c2 = det3 a0 a1 a2 b0 b1 b2 c0 c1 c2 := by
  unfold det3; grind
/-! sums of all products (Jacobi, Trudi) -/
section
variable (x0 x1 x2 : Int)
theorem hs_0 : hsum x0 x1 x2 0 = 0 := rfl
theorem hs_1 : hsum x0 x1 x2 1 = 0 := rfl
theorem hs_2 : hsum x0 x1 x2 2 = 1 := rfl
theorem hp_step {x : Int} {h : Nat → Int} (e0 : h 0 = 0) (e1 : h 1 = 0) : ∀ k, hpass x h (k + 1) = h (k + 1) + x * hpass x h k
  | 0 => by show h 1 = h 1 + x * h 0; rw [e0]; omega
  | 1 => by show h 2 = h 2 + x * h 1; rw [e1]; omega
  | k + 2 => rfl
theorem hp_pow : ∀ k, hpass x0 h0 (k + 2) = x0 ^ k
  | 0 => by rw [Int.pow_zero]; rfl
  | k + 1 => by
    show h0 (k + 3) + x0 * hpass x0 h0 (k + 2) = _
    rw [hp_pow k, Int.pow_succ, Int.mul_comm]
    unfold h0
    rw [if_neg (by omega)]; omega
theorem pow0 (k : Nat) : x0 ^ k = hsum x0 x1 x2 (k + 2) - (x1 + x2) * hsum x0 x1 x2 (k + 1) + x1 * x2 * hsum x0 x1 x2 k := by
  have a2 := hp_pow x0 k
  have b2 := hp_step (x := x1) (h := hpass x0 h0) rfl rfl (k + 1)
  have c2 := hp_step (x := x2) (h := hpass x1 (hpass x0 h0)) rfl rfl (k + 1)
  have c1 := hp_step (x := x2) (h := hpass x1 (hpass x0 h0)) rfl rfl k
  show _ = hpass x2 (hpass x1 (hpass x0 h0)) (k + 2) - (x1 + x2) * hpass x2 (hpass x1 (hpass x0 h0)) (k + 1) + x1 * x2 * hpass x2 (hpass x1 (hpass x0 h0)) k
  generalize hpass x2 (hpass x1 (hpass x0 h0)) = H at *
  generalize hpass x1 (hpass x0 h0) = B at *
  generalize hpass x0 h0 = A at *
  rw [← a2]
  grind
theorem hs_rec (k : Nat) : hsum x0 x1 x2 (k + 3) = (x0 + x1 + x2) * hsum x0 x1 x2 (k + 2) - (x0 * x1 + x0 * x2 + x1 * x2) * hsum x0 x1 x2 (k + 1) + x0 * x1 * x2 * hsum x0 x1 x2 k := by
  have h1 := pow0 x0 x1 x2 k
  have h2 := pow0 x0 x1 x2 (k + 1)
  rw [Int.pow_succ] at h2
  generalize hsum x0 x1 x2 = H at *
  grind
theorem pow1 : ∀ k : Nat, x1 ^ k = hsum x0 x1 x2 (k + 2) - (x0 + x2) * hsum x0 x1 x2 (k + 1) + x0 * x2 * hsum x0 x1 x2 k
  | 0 => by rw [hs_0, hs_1, hs_2]; simp
  | k + 1 => by
    have h := hs_rec x0 x1 x2 k
    rw [Int.pow_succ, pow1 k]
    generalize hsum x0 x1 x2 = H at *
    grind
theorem pow2 : ∀ k : Nat, x2 ^ k = hsum x0 x1 x2 (k + 2) - (x0 + x1) * hsum x0 x1 x2 (k + 1) + x0 * x1 * hsum x0 x1 x2 k
  | 0 => by rw [hs_0, hs_1, hs_2]; simp
  | k + 1 => by
    have h := hs_rec x0 x1 x2 k
    rw [Int.pow_succ, pow2 k]
    generalize hsum x0 x1 x2 = H at *
    grind
theorem trudi (p0 p1 p2 : Nat) : alt3 x0 x1 x2 p0 p1 p2 = alt3 x0 x1 x2 0 1 2 * jac3 (hsum x0 x1 x2) p0 p1 p2 := by
  have e0 : ∀ k, x0 ^ k = 1 * hsum x0 x1 x2 (k + 2) + -(x1 + x2) * hsum x0 x1 x2 (k + 1) + x1 * x2 * hsum x0 x1 x2 k := fun k => by rw [pow0 x0 x1 x2 k, Int.one_mul, Int.neg_mul, Int.sub_eq_add_neg]
  have e1 : ∀ k, x1 ^ k = 1 * hsum x0 x1 x2 (k + 2) + -(x0 + x2) * hsum x0 x1 x2 (k + 1) + x0 * x2 * hsum x0 x1 x2 k := fun k => by rw [pow1 x0 x1 x2 k, Int.one_mul, Int.neg_mul, Int.sub_eq_add_neg]
  have e2 : ∀ k, x2 ^ k = 1 * hsum x0 x1 x2 (k + 2) + -(x0 + x1) * hsum x0 x1 x2 (k + 1) + x0 * x1 * hsum x0 x1 x2 k := fun k => by rw [pow2 x0 x1 x2 k, Int.one_mul, Int.neg_mul, Int.sub_eq_add_neg]
  have hb : alt3 x0 x1 x2 0 1 2 = det3 1 (-(x1 + x2)) (x1 * x2) 1 (-(x0 + x2)) (x0 * x2) 1 (-(x0 + x1)) (x0 * x1) := by
    rw [det_van]; unfold alt3; rw [Int.pow_zero, Int.pow_zero, Int.pow_zero, Int.pow_one, Int.pow_one, Int.pow_one]
  rw [hb, Int.mul_comm]
  unfold jac3
  rw [← det_mul, ← e0, ← e1, ← e2, ← e0, ← e1, ← e2, ← e0, ← e1, ← e2, det_T]
  rfl
end
end

/-! part N23 -/
section
open PySem PySem.W PyProof.Rows PySem.Calls
set_option maxRecDepth 100000
/-! sums over a table -/
noncomputable def sumF (F : Int → Int) (kv : List (Int × Int)) : Int := (kv.map fun p => p.2 * F p.1).sum
theorem foldl_sum (F : Int → Int) : ∀ (l : List (Int × Int)) (a : Int), l.foldl (fun acc p => acc + p.2 * F p.1) a = a + sumF F l
  | [], a => by simp [sumF]
  | p :: r, a => by
    show r.foldl _ (a + p.2 * F p.1) = _
    rw [foldl_sum F r]
    simp [sumF]; omega
theorem sumW_eq (F : Int → Int) (l : List (Int × Int)) : sumW F l = sumF F l := by
  unfold sumW; rw [foldl_sum]; omega
theorem dgetZ_mem {kv : List (Int × Int)} {k v : Int} (h : dgetZ kv k = some v) : (k, v) ∈ kv := by
  unfold dgetZ at h
  obtain ⟨p, h1, rfl⟩ := Option.map_eq_some_iff.mp h
  have := List.find?_some h1
  simp at this
  subst this
  exact List.mem_of_find?_eq_some h1
theorem dgetZ_of {kv : List (Int × Int)} (hn : (kv.map (·.1)).Nodup) : ∀ {p : Int × Int}, p ∈ kv → dgetZ kv p.1 = some p.2 := by
  induction kv with
  | nil => intro p h; cases h
  | cons q r ih =>
    intro p hp
    rw [List.map_cons, List.nodup_cons] at hn
    unfold dgetZ
    by_cases e : q.1 = p.1
    · rw [List.find?_cons_of_pos (by simpa using e)]
      rcases List.mem_cons.mp hp with rfl | h
      · rfl
      · exact absurd (List.mem_map_of_mem (f := (·.1)) h) (by rw [← e]; exact hn.1)
    · rw [List.find?_cons_of_neg (by simpa using e)]
      rcases List.mem_cons.mp hp with rfl | h
      · exact absurd rfl e
      · exact ih hn.2 h
theorem sum_map_set {F : Int → Int} {k v w : Int} : ∀ {kv : List (Int × Int)}, (kv.map (·.1)).Nodup → dgetZ kv k = some w → sumF F (kv.map fun p => if p.1 = k then (p.1, v) else p) = sumF F kv + (v - w) * F k
  | [], _, h => by cases h
  | q :: r, hn, h => by
    rw [List.map_cons, List.nodup_cons] at hn
    by_cases e : q.1 = k
    · have hw : q.2 = w := by
        unfold dgetZ at h
        rw [List.find?_cons_of_pos (by simpa using e)] at h
        simpa using h
      have hr : r.map (fun p => if p.1 = k then (p.1, v) else p) = r := by
        refine (List.map_congr_left fun p hp => ?_).trans (List.map_id r)
        rw [if_neg]; rfl
        rintro q'
        exact hn.1 (by rw [e, ← q']; exact List.mem_map_of_mem (f := (·.1)) hp)
      rw [List.map_cons, hr, if_pos e]
      simp only [sumF, List.map_cons, List.sum_cons]
      rw [hw, e, Int.sub_mul]; omega
    · have h' : dgetZ r k = some w := by
        unfold dgetZ at h ⊢
        rwa [List.find?_cons_of_neg (by simpa using e)] at h
      have ih := sum_map_set (F := F) (v := v) hn.2 h'
      rw [List.map_cons, if_neg e]
      simp only [sumF, List.map_cons, List.sum_cons] at ih ⊢
      rw [ih]; omega
theorem sum_dset {F : Int → Int} {kv : List (Int × Int)} {k d : Int} (hn : (kv.map (·.1)).Nodup) : sumF F (dsetZ kv k ((dgetZ kv k).getD 0 + d)) = sumF F kv + d * F k := by
  unfold dsetZ
  split
  · rename_i h
    obtain ⟨p, hp, e⟩ := List.any_eq_true.mp h
    have e : p.1 = k := by simpa using e
    have hg := dgetZ_of hn hp
    rw [e] at hg
    rw [sum_map_set hn hg, hg]
    show _ + (p.2 + d - p.2) * F k = _
    rw [show p.2 + d - p.2 = d by omega]
  · rename_i h
    have hg : dgetZ kv k = none := by
      unfold dgetZ
      rw [Option.map_eq_none_iff, List.find?_eq_none]
      intro p hp q
      exact h (List.any_eq_true.mpr ⟨p, hp, by simpa using q⟩)
    rw [hg]
    simp [sumF]
theorem sum_perm {F : Int → Int} {a b : List (Int × Int)} (h : a.Perm b) : sumF F a = sumF F b := by
  induction h with
  | nil => rfl
  | cons x _ ih => simp only [sumF, List.map_cons, List.sum_cons] at ih ⊢; rw [ih]
  | swap x y l => simp only [sumF, List.map_cons, List.sum_cons]; omega
  | trans _ _ h1 h2 => rw [h1, h2]
theorem sum_drop {F : Int → Int} {g : Int → Int} : ∀ l : List Int, sumF F ((l.filter fun k => g k != 0).map fun k => (k, g k)) = sumF F (l.map fun k => (k, g k))
  | [] => rfl
  | k :: r => by
    have ih := sum_drop (F := F) (g := g) r
    by_cases e : g k = 0
    · rw [List.filter_cons_of_neg (by simp [e]), ih]
      simp [sumF, e]
    · rw [List.filter_cons_of_pos (by simp [e])]
      simp only [sumF, List.map_cons, List.sum_cons] at ih ⊢
      rw [ih]
theorem tidy_sum {F : Int → Int} {kv : List (Int × Int)} (hn : (kv.map (·.1)).Nodup) : sumF F (tidyZ kv) = sumF F kv := by
  unfold tidyZ
  rw [sum_drop (g := fun k => (dgetZ kv k).getD 0)]
  have h1 : sumF F ((keysZ kv).map fun k => (k, (dgetZ kv k).getD 0)) = sumF F ((kv.map (·.1)).map fun k => (k, (dgetZ kv k).getD 0)) := sum_perm ((sortI_perm _).map _)
  rw [h1, List.map_map]
  congr 1
  refine (List.map_congr_left fun p hp => ?_).trans (List.map_id kv)
  show (p.1, (dgetZ kv p.1).getD 0) = p
  rw [dgetZ_of hn hp]; rfl
theorem tidy_keys {kv : List (Int × Int)} (hn : (kv.map (·.1)).Nodup) : ((tidyZ kv).map (·.1)).Nodup := by
  unfold tidyZ
  rw [List.map_map]
  have : ((fun p : Int × Int => p.1) ∘ fun k => (k, (dgetZ kv k).getD 0)) = id := rfl
  rw [this, List.map_id]
  exact (keysZ_nodup hn).filter _
theorem onw_keys {kv : List (Int × Int)} {step : Int} : ((onwZ kv step).map (·.1)).Nodup := by
  have h1 : ∀ (s : Int) (l : List Int) (acc : List (Int × Int)), (acc.map (·.1)).Nodup → ((l.foldl (moveZ kv s step) acc).map (·.1)).Nodup := by
    intro s l
    induction l with
    | nil => intro acc h; exact h
    | cons p r ih => intro acc h; exact ih _ (moveZ_keys h)
  have h2 : ∀ (l : List Int) (acc : List (Int × Int)), (acc.map (·.1)).Nodup → ((l.foldl (onwS kv step) acc).map (·.1)).Nodup := by
    intro l
    induction l with
    | nil => intro acc h; exact h
    | cons s r ih => intro acc h; exact ih _ (h1 s _ _ h)
  exact h2 _ _ List.nodup_nil
/-! alternants by rows -/
noncomputable def altL (x0 x1 x2 : Int) (row : List Int) : Int := alt3 x0 x1 x2 (row.getD 0 0).toNat (row.getD 1 0).toNat (row.getD 2 0).toNat
theorem pow_par (t : Nat) : (t % 2 = 0 → (-1 : Int) ^ t = 1) ∧ (t % 2 = 1 → (-1 : Int) ^ t = -1) := by
  induction t with
  | zero => exact ⟨fun _ => rfl, fun h => by cases h⟩
  | succ t ih =>
    rw [Int.pow_succ]
    refine ⟨fun h => ?_, fun h => ?_⟩
    · rw [ih.2 (by omega)]; rfl
    · rw [ih.1 (by omega)]; rfl
theorem alt_row {x0 x1 x2 : Int} {row : List Int} (h : rowB row = true) : (apartZ row = true → (-1) ^ (turnedZ row).toNat * altL x0 x1 x2 (spots (stateZ row)) = altL x0 x1 x2 row) ∧ (apartZ row = false → altL x0 x1 x2 row = 0) := by
  unfold rowB at h
  constructor
  · intro ha
    rw [if_pos ha] at h
    dsimp only at h
    have hp := pow_par (turnedZ row).toNat
    generalize (turnedZ row).toNat = t at h hp ⊢
    generalize spots (stateZ row) = sp at h ⊢
    simp only [Bool.and_eq_true, Bool.or_eq_true, decide_eq_true_eq] at h
    obtain ⟨hl, h⟩ := h
    unfold altL alt3 det3
    rcases h with ((((⟨h, ht⟩ | ⟨h, ht⟩) | ⟨h, ht⟩) | ⟨h, ht⟩) | ⟨h, ht⟩) | ⟨h, ht⟩
    · rw [hp.1 ht, h]; simp only [List.getD_cons_zero, List.getD_cons_succ]; grind
    · rw [hp.2 ht, h]; simp only [List.getD_cons_zero, List.getD_cons_succ]; grind
    · rw [hp.2 ht, h]; simp only [List.getD_cons_zero, List.getD_cons_succ]; grind
    · rw [hp.1 ht, h]; simp only [List.getD_cons_zero, List.getD_cons_succ]; grind
    · rw [hp.1 ht, h]; simp only [List.getD_cons_zero, List.getD_cons_succ]; grind
    · rw [hp.2 ht, h]; simp only [List.getD_cons_zero, List.getD_cons_succ]; grind
  · intro ha
    rw [if_neg (by rw [ha]; decide)] at h
    simp only [Bool.or_eq_true, decide_eq_true_eq] at h
    unfold altL alt3 det3
    rcases h with h | h | h
    · rw [h]; grind
    · rw [h]; grind
    · rw [h]; grind
theorem way_sum {x0 x1 x2 : Int} {kv : List (Int × Int)} {row : List Int} (hn : (kv.map (·.1)).Nodup) (h : rowB row = true) : sumF (fun k => altL x0 x1 x2 (spots k)) (wayZ kv row) = sumF (fun k => altL x0 x1 x2 (spots k)) kv + altL x0 x1 x2 row := by
  have hr := alt_row (x0 := x0) (x1 := x1) (x2 := x2) h
  unfold wayZ
  cases ha : apartZ row with
  | true => rw [if_pos rfl, sum_dset hn, hr.1 ha]
  | false => rw [if_neg (by decide), hr.2 ha, Int.add_zero]
theorem row_ok {a b c : Nat} (ha : a ≤ 10) (hb : b ≤ 10) (hc : c ≤ 10) : rowB [(a : Int), b, c] = true := by
  have hm : ∀ z : Nat, z ≤ 10 → (z : Int) ∈ rangeInts 0 1 11 := fun z hz => List.mem_map.mpr ⟨z, List.mem_range.mpr (Nat.lt_succ_of_le hz), by rw [Int.mul_one, Int.zero_add]⟩
  exact List.all_eq_true.mp (List.all_eq_true.mp (List.all_eq_true.mp row_all _ (hm a ha)) _ (hm b hb)) _ (hm c hc)
theorem sm1 {a s : Nat} (ha : a ≤ 4) (hs : s ≤ 3) : a + s ≤ 10 := by omega
theorem sm2 {a s t : Nat} (ha : a ≤ 4) (hs : s ≤ 3) (ht : t ≤ 3) : a + s + t ≤ 10 := by omega
theorem sm0 {a : Nat} (ha : a ≤ 4) : a ≤ 10 := Nat.le_trans ha (by decide)
theorem alt_step (x0 x1 x2 : Int) (p q r s : Nat) : alt3 x0 x1 x2 (p + s) q r + alt3 x0 x1 x2 p (q + s) r + alt3 x0 x1 x2 p q (r + s) = (x0 ^ s + x1 ^ s + x2 ^ s) * alt3 x0 x1 x2 p q r := by
  unfold alt3
  rw [← det_step]
  simp only [Int.pow_add]
theorem pw_eq (x0 x1 x2 : Int) (s : Nat) : pwZ x0 x1 x2 s = x0 ^ s + x1 ^ s + x2 ^ s := by
  unfold pwZ
  rw [Int.toNat_natCast]
  simp only [List.map_cons, List.map_nil, List.sum_cons, List.sum_nil]
  omega
theorem three_sum {x0 x1 x2 : Int} {ps : List Int} {s0 s1 : Int} (f : Nat) {kv : List (Int × Int)} (hn : (kv.map (·.1)).Nodup) (h0 : rowB (rowZ ps s0 s1 f 0) = true) (h1 : rowB (rowZ ps s0 s1 f 1) = true) (h2 : rowB (rowZ ps s0 s1 f 2) = true) :
    sumF (fun k => altL x0 x1 x2 (spots k)) (waysZ ps s0 s1 f 3 kv) = sumF (fun k => altL x0 x1 x2 (spots k)) kv + (altL x0 x1 x2 (rowZ ps s0 s1 f 0) + altL x0 x1 x2 (rowZ ps s0 s1 f 1) + altL x0 x1 x2 (rowZ ps s0 s1 f 2)) := by
  have hk := waysZ_ok (ps := ps) (s0 := s0) (s1 := s1) (f := f) hn
  show sumF _ (wayZ (waysZ ps s0 s1 f 2 kv) (rowZ ps s0 s1 f 2)) = _
  rw [way_sum (hk 2).2 h2]
  show sumF _ (wayZ (waysZ ps s0 s1 f 1 kv) (rowZ ps s0 s1 f 1)) + _ = _
  rw [way_sum (hk 1).2 h1]
  show sumF _ (wayZ kv (rowZ ps s0 s1 f 0)) + _ + _ = _
  rw [way_sum hn h0]
  omega
theorem alt_sum {x0 x1 x2 : Int} {a b c s0 s1 : Nat} (ha : a ≤ 4) (hb : b ≤ 4) (hc : c ≤ 4) (h0 : s0 ≤ 3) (h1 : s1 ≤ 3) :
    sumF (fun k => altL x0 x1 x2 (spots k)) (allZ [(a : Int), b, c] s0 s1 3) = pwZ x0 x1 x2 s0 * pwZ x0 x1 x2 s1 * alt3 x0 x1 x2 a b c := by
  have n1 := allZ_ok (ps := [(a : Int), b, c]) (s0 := s0) (s1 := s1) 1
  have n2 := allZ_ok (ps := [(a : Int), b, c]) (s0 := s0) (s1 := s1) 2
  have e00 : rowZ [(a : Int), b, c] s0 s1 0 0 = [((a + s0 + s1 : Nat) : Int), (b : Int), (c : Int)] := rfl
  have e01 : rowZ [(a : Int), b, c] s0 s1 0 1 = [((a + s0 : Nat) : Int), ((b + s1 : Nat) : Int), (c : Int)] := rfl
  have e02 : rowZ [(a : Int), b, c] s0 s1 0 2 = [((a + s0 : Nat) : Int), (b : Int), ((c + s1 : Nat) : Int)] := rfl
  have e10 : rowZ [(a : Int), b, c] s0 s1 1 0 = [((a + s1 : Nat) : Int), ((b + s0 : Nat) : Int), (c : Int)] := rfl
  have e11 : rowZ [(a : Int), b, c] s0 s1 1 1 = [(a : Int), ((b + s0 + s1 : Nat) : Int), (c : Int)] := rfl
  have e12 : rowZ [(a : Int), b, c] s0 s1 1 2 = [(a : Int), ((b + s0 : Nat) : Int), ((c + s1 : Nat) : Int)] := rfl
  have e20 : rowZ [(a : Int), b, c] s0 s1 2 0 = [((a + s1 : Nat) : Int), (b : Int), ((c + s0 : Nat) : Int)] := rfl
  have e21 : rowZ [(a : Int), b, c] s0 s1 2 1 = [(a : Int), ((b + s1 : Nat) : Int), ((c + s0 : Nat) : Int)] := rfl
  have e22 : rowZ [(a : Int), b, c] s0 s1 2 2 = [(a : Int), (b : Int), ((c + s0 + s1 : Nat) : Int)] := rfl
  have t0 := three_sum (x0 := x0) (x1 := x1) (x2 := x2) (ps := [(a : Int), b, c]) (s0 := s0) (s1 := s1) 0 (kv := []) List.nodup_nil (row_ok (sm2 ha h0 h1) (sm0 hb) (sm0 hc)) (row_ok (sm1 ha h0) (sm1 hb h1) (sm0 hc)) (row_ok (sm1 ha h0) (sm0 hb) (sm1 hc h1))
  have t1 := three_sum (x0 := x0) (x1 := x1) (x2 := x2) (ps := [(a : Int), b, c]) (s0 := s0) (s1 := s1) 1 n1.2 (row_ok (sm1 ha h1) (sm1 hb h0) (sm0 hc)) (row_ok (sm0 ha) (sm2 hb h0 h1) (sm0 hc)) (row_ok (sm0 ha) (sm1 hb h0) (sm1 hc h1))
  have t2 := three_sum (x0 := x0) (x1 := x1) (x2 := x2) (ps := [(a : Int), b, c]) (s0 := s0) (s1 := s1) 2 n2.2 (row_ok (sm1 ha h1) (sm0 hb) (sm1 hc h0)) (row_ok (sm0 ha) (sm1 hb h1) (sm1 hc h0)) (row_ok (sm0 ha) (sm0 hb) (sm2 hc h0 h1))
  have z0 : sumF (fun k => altL x0 x1 x2 (spots k)) [] = 0 := rfl
  have an : ∀ p q r : Nat, altL x0 x1 x2 [(p : Int), (q : Int), (r : Int)] = alt3 x0 x1 x2 p q r := fun p q r => rfl
  rw [e00, e01, e02, an, an, an, z0] at t0
  rw [e10, e11, e12, an, an, an] at t1
  rw [e20, e21, e22, an, an, an] at t2
  show sumF _ (waysZ [(a : Int), b, c] s0 s1 2 3 (allZ [(a : Int), b, c] s0 s1 2)) = _
  rw [t2]
  show sumF _ (waysZ [(a : Int), b, c] s0 s1 1 3 (allZ [(a : Int), b, c] s0 s1 1)) + _ = _
  rw [t1]
  show sumF _ (waysZ [(a : Int), b, c] s0 s1 0 3 []) + _ + _ = _
  rw [t0, alt_step, alt_step, alt_step, pw_eq, pw_eq, Int.zero_add, ← Int.mul_add, ← Int.mul_add, alt_step]
  generalize alt3 x0 x1 x2 a b c = D
  generalize x0 ^ s0 + x1 ^ s0 + x2 ^ s0 = u
  generalize x0 ^ s1 + x1 ^ s1 + x2 ^ s1 = v
  rw [← Int.mul_assoc, Int.mul_comm v u]
end

/-! part N21 -/
section
open PySem PySem.W PyProof.Rows PySem.Calls
set_option maxRecDepth 100000
/-! words -/
theorem fm_nat (c : Int) (b : Nat) (hb : 0 < b) : ∃ m : Nat, c.fmod (b : Int) = m ∧ m < b := by
  have h := Int.fmod_nonneg_of_pos c (Int.ofNat_lt.mpr hb)
  have h' := Int.fmod_lt_of_pos c (Int.ofNat_lt.mpr hb)
  obtain ⟨m, hm⟩ := Int.eq_ofNat_of_zero_le h
  exact ⟨m, hm, Int.ofNat_lt.mp (hm ▸ h')⟩
theorem fm_three (c : Int) : c.fmod 3 = 0 ∨ c.fmod 3 = 1 ∨ c.fmod 3 = 2 := by
  obtain ⟨m, hm, h⟩ := fm_nat c 3 (by decide)
  rw [show c.fmod 3 = m from hm]
  match m, h with
  | 0, _ => exact .inl rfl
  | 1, _ => exact .inr (.inl rfl)
  | 2, _ => exact .inr (.inr rfl)
theorem fm_four (c : Int) : c.fmod 4 = 0 ∨ c.fmod 4 = 1 ∨ c.fmod 4 = 2 ∨ c.fmod 4 = 3 := by
  obtain ⟨m, hm, h⟩ := fm_nat c 4 (by decide)
  rw [show c.fmod 4 = m from hm]
  match m, h with
  | 0, _ => exact .inl rfl
  | 1, _ => exact .inr (.inl rfl)
  | 2, _ => exact .inr (.inr (.inl rfl))
  | 3, _ => exact .inr (.inr (.inr rfl))
theorem word_alph {s sk : Int} : ∀ c ∈ wordL s sk, c ∈ alph52 := by
  intro c hc
  obtain ⟨k, _, rfl⟩ := List.mem_map.mp hc
  obtain ⟨m, hm, hm'⟩ := fm_nat (k * sk) 26 (by decide)
  unfold chI alph52
  rw [show (k * sk).fmod 26 = m from hm, List.mem_append, List.mem_map, List.mem_map]
  cases q : (bitI s k != 0) with
  | true => exact .inl ⟨m, List.mem_range.mpr hm', rfl⟩
  | false => exact .inr ⟨m, List.mem_range.mpr hm', rfl⟩
theorem lev_word (a b sk : Int) (mc : Nat) : levN (wordL a sk) (wordL b sk) (mc : Int) = ((if (levG (wordL a sk) (wordL b sk)).1 > mc then mc + 1 else (levG (wordL a sk) (wordL b sk)).2 : Nat) : Int) := by
  rw [levG_eq]
  refine lev_eq mc _ _ fun c hc x hx => alph52_sub c ?_ x ?_
  · rcases List.mem_append.mp hc with h | h <;> exact word_alph c h
  · rcases List.mem_append.mp hx with h | h <;> exact word_alph x h
theorem told_lev (s m p sk : Int) (mc : Nat) : toldZ s m p (mc : Int) sk = ((if (levT s m p sk).1 > mc then mc + 1 else (levT s m p sk).2 : Nat) : Int) := by
  unfold toldZ levT
  by_cases h : p.fmod 2 = 0
  · rw [if_pos h, if_pos h, if_pos h]; exact lev_word _ _ _ _
  · rw [if_neg h, if_neg h, if_neg h]; exact lev_word _ _ _ _
theorem pl_in {x : Int} (h : x ∈ st56 ∨ x ∈ pas) : PlOk x := plOk_of (List.all_eq_true.mp pl_all x (List.mem_append.mpr h))
theorem ble_cond (a b x y : Nat) : (bif Nat.ble a b then x else y) = if a > b then y else x := by
  by_cases h : a > b
  · rw [if_pos h, show Nat.ble a b = false from by cases q : Nat.ble a b; rfl; exact absurd (Nat.le_of_ble_eq_true q) (by omega)]; rfl
  · rw [if_neg h, show Nat.ble a b = true from Nat.ble_eq_true_of_le (by omega)]; rfl
theorem turn_of {s p step sk : Int} (h : turnB s p step sk = true) (hp : 0 ≤ p ∧ p ≤ 20) {b : Nat} (hb : 2 ≤ b ∧ b ≤ 5) : TurnOk s p step (b : Int) sk := by
  unfold turnB at h
  refine ⟨hp.1, hp.2, fun hg => ?_, fun hg => ?_⟩
  · rw [hg, cond_true] at h
    dsimp only at h
    rw [told_lev]
    generalize levT s (movedZ s p step) p sk = r at h ⊢
    simp only [Bool.and_eq_true] at h
    obtain ⟨⟨h1, h2⟩, h3⟩ := h
    have h1 := Nat.le_of_ble_eq_true h1
    have h2 := Nat.eq_of_beq_eq_true h2
    refine ⟨?_, pl_in (.inr (List.contains_iff_mem.mp h3))⟩
    rw [if_neg (by omega), h2]; rfl
  · rw [hg, cond_false] at h
    dsimp only at h
    rw [told_lev]
    generalize levT s (movedZ s p step) p sk = r at h ⊢
    generalize dueW s (movedZ s p step) = u at h ⊢
    simp only [Bool.and_eq_true] at h
    obtain ⟨h2, h3, h4, h5⟩ := h
    have key : noB r u b = true := by
      have : b = 2 ∨ b = 3 ∨ b = 4 ∨ b = 5 := by omega
      rcases this with rfl | rfl | rfl | rfl <;> assumption
    unfold noB at key
    dsimp only at key
    rw [ble_cond] at key
    generalize (if r.1 > b then b + 1 else r.2) = t at key ⊢
    simp only [Bool.and_eq_true, Bool.or_eq_true, decide_eq_true_eq, Bool.not_eq_true'] at key
    obtain ⟨k1, k2⟩ := key
    refine ⟨?_, ?_⟩
    · intro q
      have : t = 2 := by omega
      subst this
      cases k1
    · rcases k2 with k2 | ⟨k2, k3⟩
      · exact .inl k2
      · exact .inr ⟨by omega, k3⟩
theorem spots_range {s : Int} : ∀ p ∈ spots s, 0 ≤ p ∧ p < 12 := fun p hp => r12_lt p (List.mem_filter.mp hp).1
theorem bits_100 {v : Int} (h : v.natAbs ≤ 100) : Builtin.Int.intBits v ≤ 8 := intBits_le_iff.mpr (by show v.natAbs < 256; omega)
/-- what _law_onward asks of a table -/
theorem on_ok {kv : List (Int × Int)} (h : kv.all (fun p => st56.contains p.1 && decide (p.2.natAbs ≤ 100)) = true) {step sk : Int} (hst : step ∈ ([1, 2, 3] : List Int)) (hsk : sk ∈ ([0, 1, 3] : List Int)) {b : Nat} (hb : 2 ≤ b ∧ b ≤ 5) :
    ∀ s ∈ keysZ kv, PlOk s ∧ (∃ v, dgetZ kv s = some v ∧ Builtin.Int.intBits v ≤ 100) ∧ ∀ p ∈ spots s, TurnOk s p step (b : Int) sk := by
  intro s hs
  obtain ⟨v, hv⟩ := keysZ_mem hs
  have h1 := List.all_eq_true.mp h _ (dgetZ_mem hv)
  rw [Bool.and_eq_true, decide_eq_true_eq] at h1
  obtain ⟨hm, hb'⟩ := h1
  have hm := List.contains_iff_mem.mp hm
  refine ⟨pl_in (.inl hm), ⟨v, hv, Nat.le_trans (bits_100 hb') (by decide)⟩, fun p hp => ?_⟩
  have h2 := List.all_eq_true.mp sta_all s hm
  unfold staB at h2
  have h3 := List.all_eq_true.mp (List.all_eq_true.mp (List.all_eq_true.mp h2 sk hsk) step hst) p hp
  have hr := spots_range p hp
  exact turn_of h3 ⟨hr.1, by omega⟩ hb
/-- a start and two steps -/
structure Cfg (st s0 s1 : Int) (t1 t2 wz : List (Int × Int)) : Prop where
  a0 : [(st, (1 : Int))].all (fun p => st56.contains p.1 && decide (p.2.natAbs ≤ 100)) = true
  a1 : t1.all (fun p => st56.contains p.1 && decide (p.2.natAbs ≤ 100)) = true
  e1 : onwZ [(st, 1)] s0 = t1
  e2 : onwZ t1 s1 = t2
  l1 : t1.length ≤ 12
  l2 : t2.length < 64
  n2 : (t2.map (·.1)).Nodup
  ew : tidyZ t2 = wz
  es : tidyZ (allZ (plcZ st) s0 s1 3) = wz
  w0 : wz ≠ []
  wl : wz.length < 64
  wn : (wz.map (·.1)).Nodup
  wk : ∀ p ∈ wz, p.1 ∈ k165 ∧ p.2.natAbs ≤ 100
theorem start56 : ∀ st ∈ startL, st ∈ st56 := by decide +kernel
theorem cfg_of {st s0 s1 : Int} (hst : st ∈ startL) (h0 : s0 ∈ ([1, 2, 3] : List Int)) (h1 : s1 ∈ ([1, 2, 3] : List Int)) : ∃ t1 t2 wz, Cfg st s0 s1 t1 t2 wz := by
  have h := List.all_eq_true.mp (List.all_eq_true.mp (List.all_eq_true.mp cfg_all st hst) s0 h0) s1 h1
  unfold cfgB at h
  dsimp only at h
  simp only [Bool.and_eq_true, decide_eq_true_eq, Bool.not_eq_true'] at h
  obtain ⟨a1, l2, es, w0, wk⟩ := h
  have n1 : ((onwZ [(st, 1)] s0).map (·.1)).Nodup := onw_keys
  have n2 : ((onwZ (onwZ [(st, 1)] s0) s1).map (·.1)).Nodup := onw_keys
  refine ⟨_, _, _, ⟨?_, a1, rfl, rfl, ?_, l2, n2, rfl, es.symm, ?_, ?_, tidy_keys n2, ?_⟩⟩
  · rw [List.all_cons, List.all_nil, Bool.and_true, List.contains_iff_mem.mpr (start56 st hst)]; rfl
  · have h := foldl_onw_len (kv := [(st, 1)]) (step := s0) (keysZ [(st, 1)]) []
    rw [keysZ_len] at h
    exact h
  · intro q
    rw [q] at w0
    cases w0
  · unfold tidyZ
    rw [List.length_map]
    exact Nat.lt_of_le_of_lt (List.length_filter_le ..) (by rw [keysZ_len]; exact l2)
  · intro p hp
    have := List.all_eq_true.mp wk p hp
    rw [Bool.and_eq_true, decide_eq_true_eq] at this
    exact ⟨List.contains_iff_mem.mp this.1, this.2⟩
noncomputable def sN (k : Int) (i : Nat) : Nat := ((spots k).getD i 0).toNat
/-- a state that is reached -/
structure Key (k : Int) : Prop where
  ok : pfOk k = true
  hj : JoinOk ", " (pfNames k) = true
  nm : pfNames k = (spots k).map nmI
  sp : spots k = [(sN k 0 : Int), (sN k 1 : Int), (sN k 2 : Int)]
  b0 : sN k 0 ≤ 10
  b1 : sN k 1 ≤ 10
  b2 : sN k 2 ≤ 10
  t0 : levN (wordL (2 * k) 0) (wordL k 0) 0 = 1
  t1 : ∀ b : Nat, 4 ≤ b → levN (wordL k 0) (wordL (2 * k) 0) (b : Int) = apZ k
theorem key_of {k : Int} (hk : k ∈ k165) : Key k := by
  have h := List.all_eq_true.mp key_all k hk
  unfold keyB at h
  dsimp only at h
  simp only [Bool.and_eq_true, decide_eq_true_eq] at h
  obtain ⟨h1, h2, h3, h4, h5, h6, h7, h8⟩ := h
  have h7 := Nat.le_of_ble_eq_true h7
  have hsp : ∀ i, i < 3 → 0 ≤ (spots k).getD i 0 ∧ (spots k).getD i 0 ≤ 10 := fun i hi => by
    rw [List.getD_eq_getElem?_getD, List.getElem?_eq_getElem (by omega)]
    have := List.all_eq_true.mp h5 _ (List.getElem_mem (by omega : i < (spots k).length))
    simpa using this
  have g0 := hsp 0 (by decide)
  have g1 := hsp 1 (by decide)
  have g2 := hsp 2 (by decide)
  refine ⟨h1, h2, h3, ?_, ?_, ?_, ?_, ?_, ?_⟩
  · obtain ⟨a, b, c, e⟩ := len_3 h4
    unfold sN
    rw [e] at g0 g1 g2 ⊢
    simp only [List.getD_cons_zero, List.getD_cons_succ] at g0 g1 g2 ⊢
    rw [Int.toNat_of_nonneg g0.1, Int.toNat_of_nonneg g1.1, Int.toNat_of_nonneg g2.1]
  · exact Int.toNat_le.mpr g0.2
  · exact Int.toNat_le.mpr g1.2
  · exact Int.toNat_le.mpr g2.2
  · have := lev_word (2 * k) k 0 0
    rw [if_pos h6] at this
    exact this
  · intro b hb
    rw [lev_word, if_neg (by omega), h8]
/-- a start -/
structure Start (st : Int) : Prop where
  h1 : pfOk (-1 - st) = true
  h2 : JoinOk ", " (pfNames (-1 - st)) = true
  h3 : pfNames (-1 - st) = holesL (plcZ st)
  h4 : Builtin.bitAnd st (-1 - st) = 0
  h5 : ∃ a b c : Nat, plcZ st = [(a : Int), (b : Int), (c : Int)] ∧ a ≤ 4 ∧ b ≤ 4 ∧ c ≤ 4
  h6 : ∀ k ∈ plcZ st, k ∈ r32
  h7 : ∀ c : Int, pfOk (st + 2 ^ (32 + c.fmod 4).toNat) = true ∧ JoinOk ", " (pfNames (st + 2 ^ (32 + c.fmod 4).toNat)) = true ∧ pfNames (st + 2 ^ (32 + c.fmod 4).toNat) = aboveL (plcZ st) c
theorem start_of {st : Int} (hst : st ∈ startL) : Start st := by
  have h := List.all_eq_true.mp start_all st hst
  unfold startB at h
  simp only [Bool.and_eq_true, decide_eq_true_eq] at h
  obtain ⟨h1, h2, h3, h4, h5, h6, h7⟩ := h
  refine ⟨h1, h2, h3, h4, ?_, ?_, ?_⟩
  · obtain ⟨a, b, c, e⟩ := len_3 h5
    rw [e] at h6
    simp only [List.all_cons, List.all_nil, Bool.and_true, Bool.and_eq_true, decide_eq_true_eq] at h6
    obtain ⟨⟨ha, _⟩, ⟨hb, _⟩, hc, _⟩ := h6
    refine ⟨a.toNat, b.toNat, c.toNat, ?_, Int.toNat_le.mpr ha.2, Int.toNat_le.mpr hb.2, Int.toNat_le.mpr hc.2⟩
    rw [e, Int.toNat_of_nonneg ha.1, Int.toNat_of_nonneg hb.1, Int.toNat_of_nonneg hc.1]
  · intro k hk
    have := List.all_eq_true.mp h6 k hk
    rw [Bool.and_eq_true] at this
    exact List.contains_iff_mem.mp this.2
  · intro c
    have hd : digI (c.fmod 4) = digI c := by
      unfold digI
      rw [Int.fmod_eq_emod_of_nonneg c (by decide), Int.fmod_eq_emod_of_nonneg _ (by decide), Int.emod_emod_of_dvd _ (Int.dvd_refl 4)]
    have ha : aboveL (plcZ st) (c.fmod 4) = aboveL (plcZ st) c := by unfold aboveL; rw [hd]
    have hm : c.fmod 4 ∈ ([0, 1, 2, 3] : List Int) := by
      rcases fm_four c with h | h | h | h <;> rw [h] <;> decide
    have := List.all_eq_true.mp h7 _ hm
    simp only [Bool.and_eq_true, decide_eq_true_eq] at this
    rw [← ha]
    exact this
end

/-! part J5 -/
section
open PySem PySem.W PyProof.Rows PySem.Calls
set_option maxRecDepth 100000
set_option maxHeartbeats 2000000
variable {W : Wd}
theorem num_bound (cl : List Int) {k : Int} (hk : k.fmod 2 = 0 ∨ k.fmod 2 = 1) : (numK cl k).natAbs ≤ 16 := by
  unfold numK
  have h : 0 ≤ (cl.getD k.toNat 0).fmod 5 ∧ (cl.getD k.toNat 0).fmod 5 < 5 := by rw [Int.fmod_eq_emod_of_nonneg _ (by decide)]; omega
  omega
theorem fdm {b : Int} (hb : b ≠ 0) (c J : Int) : (b * J + c.fmod b).fdiv b = J ∧ (b * J + c.fmod b).fmod b = c.fmod b := by
  have e : b * J + c.fmod b = c + b * (J - c.fdiv b) := by
    have := Int.mul_fdiv_add_fmod c b
    rw [Int.mul_sub]; omega
  rw [e]
  refine ⟨?_, ?_⟩
  · rw [Int.add_mul_fdiv_left _ _ hb]; omega
  · rw [Int.add_mul_fmod_self_left]
theorem splR {b c J a : Int} (ha : a = b * J) (hbits : Builtin.Int.intBits (a + restZ c b) ≤ 1800) : SplR b (a + restZ c b) J (restZ c b) := by
  intro hb
  have h := fdm hb c J
  have hr : restZ c b = c.fmod b := by unfold restZ; rw [if_pos (by simpa using hb)]
  rw [ha, hr] at hbits ⊢
  exact ⟨h.1, h.2, hbits⟩
theorem rest_bits {c b : Int} (hc : 0 ≤ c ∧ c < 10 ^ 9) (hb : Builtin.Int.intBits b ≤ 100) : Builtin.Int.intBits (restZ c b) ≤ 200 := by
  have h30 : Builtin.Int.intBits c ≤ 30 := intBits_le (by omega)
  unfold restZ
  split
  · exact Nat.le_trans (intBits_fmod_le h30 hb) (by decide)
  · exact Nat.le_trans h30 (by decide)
theorem alt_bits {x0 x1 x2 : Int} (h0 : Builtin.Int.intBits x0 ≤ 8) (h1 : Builtin.Int.intBits x1 ≤ 8) (h2 : Builtin.Int.intBits x2 ≤ 8) {p q r : Nat} (hp : p ≤ 14) (hq : q ≤ 14) (hr : r ≤ 14) : Builtin.Int.intBits (alt3 x0 x1 x2 p q r) ≤ 1300 := by
  have a0 := pow_bits h0 hp
  have a1 := pow_bits h0 hq
  have a2 := pow_bits h0 hr
  have b0 := pow_bits h1 hp
  have b1 := pow_bits h1 hq
  have b2 := pow_bits h1 hr
  have c0 := pow_bits h2 hp
  have c1 := pow_bits h2 hq
  have c2 := pow_bits h2 hr
  unfold alt3 det3
  tm_at "sz"
theorem base_bits {x0 x1 x2 : Int} (h0 : Builtin.Int.intBits x0 ≤ 8) (h1 : Builtin.Int.intBits x1 ≤ 8) (h2 : Builtin.Int.intBits x2 ≤ 8) : Builtin.Int.intBits (alt3 x0 x1 x2 0 1 2) ≤ 100 := by
  unfold alt3 det3
  tm_at "sz"
theorem hs_bits {x0 x1 x2 : Int} (h0 : x0.natAbs ≤ 16) (h1 : x1.natAbs ≤ 16) (h2 : x2.natAbs ≤ 16) : ∀ k, k < 13 → Builtin.Int.intBits (hsum x0 x1 x2 k) ≤ 400 := fun k hk =>
  bits_of_bound (c := 8) (by decide) (by omega) (hAt_bound h0 h1 h2 3 (by decide) k)
theorem jac_bits {h : Nat → Int} (hb : ∀ k, k < 13 → Builtin.Int.intBits (h k) ≤ 400) {p q r : Nat} (hp : p ≤ 10) (hq : q ≤ 10) (hr : r ≤ 10) : Builtin.Int.intBits (jac3 h p q r) ≤ 1300 := by
  have a0 := hb p (pi_lt (i := 0) hp (by decide))
  have a1 := hb (p + 1) (pi_lt hp (by decide))
  have a2 := hb (p + 2) (pi_lt hp (by decide))
  have b0 := hb q (pi_lt (i := 0) hq (by decide))
  have b1 := hb (q + 1) (pi_lt hq (by decide))
  have b2 := hb (q + 2) (pi_lt hq (by decide))
  have c0 := hb r (pi_lt (i := 0) hr (by decide))
  have c1 := hb (r + 1) (pi_lt hr (by decide))
  have c2 := hb (r + 2) (pi_lt hr (by decide))
  unfold jac3 det3
  tm_at "sz"
theorem pw_bits {x0 x1 x2 : Int} (h0 : Builtin.Int.intBits x0 ≤ 8) (h1 : Builtin.Int.intBits x1 ≤ 8) (h2 : Builtin.Int.intBits x2 ≤ 8) {s : Int} (hs : s ∈ ([1, 2, 3] : List Int)) : Builtin.Int.intBits (pwZ x0 x1 x2 s) ≤ 64 := by
  have h : ∀ k : Nat, k ≤ 3 → Builtin.Int.intBits (pwZ x0 x1 x2 k) ≤ 64 := fun k hk => by
    have g : ∀ x : Int, Builtin.Int.intBits x ≤ 8 → Builtin.Int.intBits (x ^ k) ≤ 50 := fun x hx => Nat.le_trans (intBits_pow_le hx k) (by omega)
    have a0 := g x0 h0
    have a1 := g x1 h1
    have a2 := g x2 h2
    rw [pw_eq]
    tm_at "sz"
  simp only [List.mem_cons, List.not_mem_nil, or_false] at hs
  rcases hs with rfl | rfl | rfl
  · exact h 1 (by decide)
  · exact h 2 (by decide)
  · exact h 3 (by decide)
theorem mem123 (c : Int) : 1 + c.fmod 3 ∈ ([1, 2, 3] : List Int) := by
  rcases fm_three c with h | h | h <;> rw [h] <;> decide
theorem mem013 (c : Int) : skZ c ∈ ([0, 1, 3] : List Int) := by
  unfold skZ
  rcases fm_three (c.fdiv 4) with h | h | h <;> rw [h] <;> decide
theorem step_b {s : Int} (h : s ∈ ([1, 2, 3] : List Int)) : 1 ≤ s ∧ s ≤ 3 ∧ ∃ k : Nat, s = k ∧ k ≤ 3 := by
  simp only [List.mem_cons, List.not_mem_nil, or_false] at h
  rcases h with rfl | rfl | rfl
  · exact ⟨by decide, by decide, 1, rfl, by decide⟩
  · exact ⟨by decide, by decide, 2, rfl, by decide⟩
  · exact ⟨by decide, by decide, 3, rfl, by decide⟩
theorem start_in (c : Int) : startL.getD (c.fmod 10).toNat 0 ∈ startL := by
  have h := (fmod10 c).2.2
  rw [List.getD_eq_getElem?_getD, List.getElem?_eq_getElem (show (c.fmod 10).toNat < startL.length from h)]
  exact List.getElem_mem _
end

end
end Mine
end

/-! part J1 -/
section
open PySem PySem.W PyProof.Rows PySem.Calls
set_option maxRecDepth 100000
namespace Mine
/-- a table of texts by ints, as it lies -/
noncomputable def intOf (v : Value) : Option Int := match v with | .int k _ => some k | _ => none
noncomputable def strOf (v : Value) : Option Str := match v with | .str s _ => some s | _ => none
theorem intOf_inv {v : Value} {k : Int} (h : intOf v = some k) : ∃ t, v = .int k t := by
  unfold intOf at h
  split at h
  · cases h; exact ⟨_, rfl⟩
  · cases h
theorem strOf_inv {v : Value} {s : Str} (h : strOf v = some s) : ∃ t, v = .str s t := by
  unfold strOf at h
  split at h
  · cases h; exact ⟨_, rfl⟩
  · cases h
noncomputable def tabB : List (Int × Str) → List DictEntry → Bool
  | [], es => es.isEmpty
  | p :: r, es => match es with
    | [] => false
    | e :: es => e.hash == hashInt p.1 && (intOf e.key == some p.1 && (strOf e.val == some p.2 && tabB r es))
theorem tabB_rep {f : FH} : ∀ (l : List (Int × Str)) (es : List DictEntry), tabB l es = true → RepD f (l.map fun p => (p.1, .str p.2)) es := by
  intro l
  induction l with
  | nil =>
    intro es h
    rw [List.isEmpty_iff.mp h]
    exact .nil
  | cons p r ih =>
    intro es h
    cases es with
    | nil => cases h
    | cons e es =>
      obtain ⟨hh, key, val⟩ := e
      have h : (hh == hashInt p.1 && (intOf key == some p.1 && (strOf val == some p.2 && tabB r es))) = true := h
      rw [Bool.and_eq_true, Bool.and_eq_true, Bool.and_eq_true, beq_iff_eq, beq_iff_eq, beq_iff_eq] at h
      obtain ⟨h1, h2, h3, h4⟩ := h
      obtain ⟨t, rfl⟩ := intOf_inv h2
      obtain ⟨u, rfl⟩ := strOf_inv h3
      subst h1
      exact .cons (.str _ _) (ih es h4)
/-! from the head to a world -/
theorem ghost_ext {h : Heap} {tabs : List (Addr × Addr)} (hT : TabsAt tabs h) : Ext h (ghostOf h tabs) := fun a o e nt => ghost_get hT e fun q => nt ⟨#[], q, trivial⟩
section
variable {p : Program} {loose : List Str} {mean : ExcName → Option Value} {mg mb : Str → Option Value} {h : Heap} (prog : Program) (w : World) (T : Top p loose mean mg mb h) (tq : List (Addr × Addr × Str)) (hT : TabsAt (tq.map fun q => (q.1, q.2.1)) h) (hu : ∀ q ∈ tq, ∀ r ∈ tq, q.2.1 = r.2.1 → q.2.2 = r.2.2)
noncomputable def mkW : Wd where
  prog := prog
  w := w
  base := ghostOf h (tq.map fun q => (q.1, q.2.1))
  mg := mg
  mb := mb
  g := ghost_ns hT T.g
  b := ghost_ns hT T.b
  nolimit := (ghost_top hT T).nolimit
  nodigits := (ghost_top hT T).nodigits
  boot := T.builtins
  tabs := tq
  code := fun q hq => by
    obtain ⟨o, vs, file, tf, flags, tg, inF, text, tt, e1, r1, r⟩ := (hT (q.1, q.2.1) (List.mem_map_of_mem (f := fun q : Addr × Addr × Str => (q.1, q.2.1)) hq)).1
    exact ⟨o, vs, file, tf, flags, tg, inF, text, tt, ghost_get hT e1 (fun q => by rw [q] at r1; cases r1), r1, r⟩
  uniq := hu
  bmain := (ghost_top hT T).bmain
theorem mkW_bs : Bs (mkW prog w T tq hT hu) (mkW prog w T tq hT hu).base.get? h where
  le := Le.refl _
  tf := fun q hq => hideAll_none _ (by
    rw [List.map_map]
    exact List.mem_map_of_mem (f := (fun q : Addr × Addr => q.2) ∘ fun q : Addr × Addr × Str => (q.1, q.2.1)) hq)
  tabs := fun q hq => ⟨#[], (hT (q.1, q.2.1) (List.mem_map_of_mem (f := fun q : Addr × Addr × Str => (q.1, q.2.1)) hq)).2, trivial, fun pos cv hc => by simp [codeAmong] at hc⟩
theorem mkW_def {x : Str} {a : Arguments} {b : List Stmt} {sc : Scope} {d : DefRec} (hr : (recsOf p).find? (fun e => e.name == x) = some d) (ha : d.params = a) (hb : d.body = b) (hs : d.scope = sc) : DefAt (mkW prog w T tq hT hu) x a b sc := by
  have hn : d.name = x := beq_iff_eq.mp (List.find?_some (p := fun e : DefRec => e.name == x) hr)
  obtain ⟨A, o, pm, cd, doc, h1, h2, h3, h4⟩ := T.fn d (List.mem_of_find?_eq_some hr)
  subst ha hb hs hn
  exact ⟨A, o, pm, cd, doc, h1, ghost_ext hT A o h2 (fun ⟨ps, q, _⟩ => by subst q; cases h3), h3, CodeRec.keepsT h4 (ghost_ext hT)⟩
theorem find_def {x : Str} {a : Arguments} {b : List Stmt} {sc : Scope} (hr : ((recsOf p).find? (fun e => e.name == x)).map (fun d => (d.params, d.body, d.scope)) = some (a, b, sc)) : ∃ d, (recsOf p).find? (fun e => e.name == x) = some d ∧ d.params = a ∧ d.body = b ∧ d.scope = sc := by
  obtain ⟨d, h1, h2⟩ := Option.map_eq_some_iff.mp hr
  cases h2
  exact ⟨d, h1, rfl, rfl, rfl⟩
theorem mkW_d {x : Str} {a : Arguments} {b : List Stmt} {sc : Scope} (hr : ((recsOf p).find? (fun e => e.name == x)).map (fun d => (d.params, d.body, d.scope)) = some (a, b, sc)) : DefAt (mkW prog w T tq hT hu) x a b sc := by
  obtain ⟨d, h1, h2, h3, h4⟩ := find_def hr
  exact mkW_def prog w T tq hT hu h1 h2 h3 h4
noncomputable def freeName (p : Program) (loose : List Str) (x : Str) : Bool := !(startupNames.contains x) && (!(loose.contains x) && (!(((recsOf p).map (·.name)).contains x) && (!(((litsOf p).map (·.1)).contains x) && (!(((clssOf p loose).map (·.name)).contains x) && x != ("__name__" : Str)))))
theorem mkW_bi {x : Str} {v : Value} (hf : freeName p loose x = true) (hb : bootBuiltins x = some v) : Bi (mkW prog w T tq hT hu) x v := by
  unfold freeName at hf
  simp only [Bool.and_eq_true, Bool.not_eq_true', bne_iff_ne, ne_eq] at hf
  obtain ⟨f1, f2, f3, f4, f5, f6⟩ := hf
  have nc : ∀ l : List Str, l.contains x = false → x ∉ l := fun l h hm => by
    rw [List.contains_iff_mem.mpr hm] at h; cases h
  exact ⟨T.free x (nc _ f1) (nc _ f2) (nc _ f3) (nc _ f4) (nc _ f5), hb, f6⟩
theorem mkW_int {x : Str} {i : Int} (hv : valOf p x = some (.int i)) : ∃ y, (mkW prog w T tq hT hu).mg x = some y ∧ Rep (mkW prog w T tq hT hu).base.get? (.int i) y := by
  obtain ⟨v, h1, h2⟩ := T.const x _ hv
  have := h2 h
  cases this
  exact ⟨_, h1, .int _ _⟩
end
theorem ints_rep {f : FH} {vs : List Value} {ns : List Int} (h : IntsAre vs ns) : Reps f (ns.map .int) vs := Reps.of_ints h
theorem script_at {P : Params} {h : Heap} {l : Addr} {vs : List Value} {ns : List Int} (hL : h.IsList l vs.toArray) (hw : Well P h (.ref l) (ofPy (.list (ns.map .int)))) : ∃ m, h.get? l = some (lobj vs m) := by
  obtain ⟨o, h1, h2, m, h3⟩ := hL
  have e : ofPy (.list (ns.map .int)) = .list (ofPys (ns.map .int)) := rfl
  rw [e] at hw
  cases hw with
  | list h4 h5 =>
    rw [h1] at h4
    cases h4
    cases h3
    exact ⟨_, h1⟩
theorem good_true {cw : ClaimW} {cl : Str → Option Addr} {mean : ExcName → Option Value} {args : List WData} {s₁ : Shared} {tabs : List (Addr × Addr)} {h' : Heap} {tk : Nat} (hT : TabsAt tabs s₁.heap) (hg : s₁.gens = #[])
    (hr : ∀ a x, cw.raises a x = false) (hp : cw.post args (.bool true) args = true)
    (keep : ∀ b o, (ghostOf s₁.heap tabs).get? b = some o → h'.get? b = some o) (grown : ∀ q ∈ tabs, ∃ ps, h'.get? q.2 = some (tabObj ps)) :
    GoodWG cw cl mean args s₁ (.ok (.ret (.bool true))) { s₁ with heap := h', toks := tk } := by
  have keep' : ∀ b o, b ∉ tabs.map (·.2) → s₁.heap.get? b = some o → h'.get? b = some o := fun b o hb e => keep b o (ghost_ne e hb)
  refine ⟨.inl ⟨_, .bool true, [], rfl, fun x => hr _ x, .bool _, hp, fun _ => ⟨List.nodup_nil, fun a ha => by cases ha⟩⟩, ⟨fun b o e => ?_, fun b o e => ?_⟩, rfl, .of_eq hg⟩
  · by_cases hb : b ∈ tabs.map (·.2)
    · obtain ⟨q, hq, rfl⟩ := List.mem_map.mp hb
      obtain ⟨ps, hP⟩ := grown q hq
      have e2 := (hT q hq).2
      rw [e] at e2
      cases e2
      exact .inr (.inl ⟨((hT q hq).1.tab (hT q hq).2).isCodeTable, rfl, #[], ps, rfl, by rw [Array.empty_append]; exact hP⟩)
    · exact .inl (keep' b o hb e)
  · by_cases hb : b ∈ tabs.map (·.2)
    · obtain ⟨q, hq, rfl⟩ := List.mem_map.mp hb
      obtain ⟨ps, hP⟩ := grown q hq
      exact ⟨_, hP⟩
    · exact ⟨o, keep' b o hb e⟩
end Mine
end

/-! part J4 -/
section
open PySem PySem.W PyProof.Rows PySem.Calls
set_option maxRecDepth 100000
namespace Mine
/-- the program's parts, as the top leaves them -/
structure Prg (W : Wd) : Prop where
  d2 : DefAt W "_div2n1n" (parAt 2) (bodyAt 2) (scAt 2)
  d4 : ∃ c T, DefAtC W "_int2digits" (parAt 4) (bodyAt 4) (scAt 4) (.ref c) ∧ (c, T, ("_int2digits.<locals>.inner" : Str)) ∈ W.tabs
  d5 : ∃ c T, DefAtC W "_digits2int" (parAt 5) (bodyAt 5) (scAt 5) (.ref c) ∧ (c, T, ("_digits2int.<locals>.inner" : Str)) ∈ W.tabs
  d6 : DefAt W "_divmod_pos" (parAt 6) (bodyAt 6) (scAt 6)
  d7 : DefAt W "int_divmod" (parAt 7) (bodyAt 7) (scAt 7)
  d10 : DefAt W "pretty_flags" (parAt 10) (bodyAt 10) (scAt 10)
  d15 : DefAt W "_substitution_cost" (parAt 15) (bodyAt 15) (scAt 15)
  d16 : DefAt W "_levenshtein_distance" (parAt 16) (bodyAt 16) (scAt 16)
  kDiv : ∃ y, W.mg "_DIV_LIMIT" = some y ∧ Rep W.base.get? (.int 4000) y
  kMove : ∃ y, W.mg "_MOVE_COST" = some y ∧ Rep W.base.get? (.int 2) y
  kCase : ∃ y, W.mg "_CASE_COST" = some y ∧ Rep W.base.get? (.int 1) y
  kMax : ∃ y, W.mg "_MAX_STRING_SIZE" = some y ∧ Rep W.base.get? (.int 40) y
  kFlag : ∃ y, W.mg "COMPILER_FLAG_NAMES" = some y ∧ Rep W.base.get? flagV y
  bDivmod : Bi W "divmod" (.builtin "divmod")
  bLen : Bi W "len" (.builtin "len")
  bRev : Bi W "reversed" (.type "reversed")
  bRange : Bi W "range" (.type "range")
  bHex : Bi W "hex" (.builtin "hex")
  bMin : Bi W "min" (.builtin "min")
  bList : Bi W "list" (.type "list")
  bStr : Bi W "str" (.type "str")
  bInst : Bi W "isinstance" (.builtin "isinstance")
  bTup : Bi W "tuple" (.type "tuple")
  bSum : Bi W "sum" (.builtin "sum")
  bEnum : Bi W "enumerate" (.type "enumerate")
  bSort : Bi W "sorted" (.builtin "sorted")
  bSet : Bi W "set" (.type "set")
  bInt : Bi W "int" (.type "int")
  bChr : Bi W "chr" (.builtin "chr")
  bZde : Bi W "ZeroDivisionError" (.type "ZeroDivisionError")
  d18 : DefAt W "_law_names" (parAt 18) (bodyAt 18) (scAt 18)
  d19 : DefAt W "_law_places" (parAt 19) (bodyAt 19) (scAt 19)
  d20 : DefAt W "_law_spell" (parAt 20) (bodyAt 20) (scAt 20)
  d21 : DefAt W "_law_onward" (parAt 21) (bodyAt 21) (scAt 21)
  d22 : DefAt W "_law_straight" (parAt 22) (bodyAt 22) (scAt 22)
  d23 : DefAt W "_law_det" (parAt 23) (bodyAt 23) (scAt 23)
  d24 : DefAt W "_law_alternant" (parAt 24) (bodyAt 24) (scAt 24)
  d25 : DefAt W "_law_sums" (parAt 25) (bodyAt 25) (scAt 25)
  d26 : DefAt W "_law_jacobi" (parAt 26) (bodyAt 26) (scAt 26)
  d27 : DefAt W "_law_split" (parAt 27) (bodyAt 27) (scAt 27)
  d28 : DefAt W "_law_due" (parAt 28) (bodyAt 28) (scAt 28)
  d29 : DefAt W "law" (parAt 29) (bodyAt 29) (scAt 29)
variable {W : Wd}
theorem nd_le {N : Nat} {a : Int} (h : Builtin.Int.intBits a ≤ 2000) (hN : N ≤ 100) : ndig N a ≤ 2100 := Nat.le_trans (Nat.div_le_self _ _) (by omega)
theorem Prg.int2 (P : Prg W) {a : Int} {N : Nat} (ha : 0 ≤ a) (hN : 0 < N) (hN' : N ≤ 100) (hb : Builtin.Int.intBits a ≤ 2000) : CallOk W 22 "_int2digits" [.int a, .int N] (.val (.list ((digsOf N a (ndig N a)).map .int))) := by
  obtain ⟨c, T, h1, h2⟩ := P.d4
  have hn : ndig N a ≤ 2100 := nd_le hb hN'
  have hm : N * ndig N a ≤ 100 * 2100 := Nat.mul_le_mul hN' hn
  exact int2digits_ok (n := 0) h1 h2 P.bLen ha hN (Nat.lt_of_le_of_lt hN' (by decide)) (Nat.le_trans hm (by decide)) (Nat.le_trans hn (by decide))
theorem Prg.toInt (P : Prg W) {ds : List Int} {N : Nat} (hd : digs N ds) (hN' : N ≤ 100) (hl : ds.length ≤ 2100) : CallOk W 21 "_digits2int" [.list (ds.map .int), .int N] (.val (.int (vd N ds))) := by
  obtain ⟨c, T, h1, h2⟩ := P.d5
  have hm : N * ds.length ≤ 100 * 2100 := Nat.mul_le_mul hN' hl
  exact digits2int_ok (n := 0) h1 h2 P.bLen hd (Nat.le_trans hm (by decide)) (Nat.le_trans hl (by decide))
theorem Prg.divPos (P : Prg W) {a b : Int} (ha : 0 ≤ a) (hb : 0 < b) (hab : Builtin.Int.intBits a ≤ 2000) (hbb : Builtin.Int.intBits b ≤ 100) : CallOk W 23 "_divmod_pos" [.int a, .int b] (.val (.tuple [.int (a / b), .int (a % b)])) := by
  generalize hN : Builtin.Int.intBits b = N at hbb
  have hN0 : 0 < N := hN ▸ bits_pos (Int.ne_of_gt hb)
  have hn : ndig N a ≤ 2100 := nd_le hab hbb
  have hlog : b.natAbs.log2 < 9000 := Nat.lt_trans (log2_of_bits (hN ▸ hbb : Builtin.Int.intBits b ≤ 100) (by decide)) (by decide)
  refine divmod_pos_ok (n := 22) (m := ndig N a) (ds := digsOf N a (ndig N a)) P.d6 P.bRev hN.symm rfl (P.int2 ha hN0 hbb hab) (fun t ht => CallOk.mono (div2n1n_ok (n := 0) P.d2 P.kDiv P.bDivmod ht (Int.ne_of_gt hb) hlog) (by decide))
    (fun qs hq hl => CallOk.mono (P.toInt hq hbb (hl ▸ hn)) (by decide)) ha hb (Nat.le_trans hbb (by decide)) ?_ (Nat.le_trans hn (by decide))
  have h1 := lt_intBits ha
  exact Int.lt_of_lt_of_le h1 (two_le (nd_up hN0 a))
theorem Prg.div (P : Prg W) {a b : Int} (hb : b ≠ 0) (hab : Builtin.Int.intBits a ≤ 2000) (hbb : Builtin.Int.intBits b ≤ 100) : CallOk W 26 "int_divmod" [.int a, .int b] (.val (.tuple [.int (a.fdiv b), .int (a.fmod b)])) := by
  refine int_divmod_ok (n := 23) P.d7 hb fun a' h0 hle => P.divPos h0 (nab_pos hb) (intBits_le_of_natAbs hle hab) ?_
  exact intBits_le_of_natAbs (by omega) hbb
theorem Prg.lev (P : Prg W) (n : Nat) (xs ys : List Nat) (mc : Int) (ha : xs.length ≤ 40) (hb : ys.length ≤ 40) : CallOk W (n + 2) "_levenshtein_distance" [.str (Mine.mk xs), .str (Mine.mk ys), .int mc] (.val (.int (levN xs ys mc))) :=
  lev_ok (n := n + 1) P.d16 P.kMove P.kMax P.bMin P.bRange P.bList P.bLen (fun x y => subcost_ok (n := n) P.d15 P.kCase P.kMove (by show 1 ≤ 1000000; decide) (by show 1 ≤ 1000000; decide)) ha hb
theorem Prg.pf (P : Prg W) (n : Nat) {x : Int} (ok : pfOk x = true) (hj : JoinOk ", " (pfNames x) = true) : CallOk W (n + 1) "pretty_flags" [.int x] (.val (.str (flagT x))) := pretty_ok P.d10 P.bRange P.bHex P.kFlag ok hj
theorem Prg.split (P : Prg W) {a b : Int} (hb : b ≠ 0) (hab : Builtin.Int.intBits a ≤ 1800) (hbb : Builtin.Int.intBits b ≤ 100) : CallOk W 28 "_law_split" [.int a, .int b] (.val (.list ([a.fdiv b, a.fmod b].map decV))) :=
  law_split_ok (n := 27) (Nat.le_trans (intBits_fdiv_le hab) (by decide)) (Nat.le_trans (intBits_fmod_le hab hbb) (by decide)) P.d27 P.bStr P.bInst P.bTup (CallOk.mono (P.div hb (Nat.le_trans hab (by decide)) hbb) (by decide))
theorem Prg.splitQ (P : Prg W) {b : Int} (hbb : Builtin.Int.intBits b ≤ 100) : SplitQ qTop W 28 b := by
  by_cases hb : b = 0
  · subst hb
    exact splitQ_none fun a => law_split_zero (n := 26) P.d27 P.d7 P.bStr P.bZde
  · exact splitQ_some hb fun a ha => P.split hb ha hbb
theorem Prg.onward (P : Prg W) {kv : List (Int × Int)} {step bound sk : Int} (hst : 0 ≤ step ∧ step ≤ 20) (hsk : Builtin.Int.intBits sk ≤ 100) (hl : kv.length ≤ 12) (hkv : ∀ s ∈ keysZ kv, PlOk s ∧ (∃ v, dgetZ kv s = some v ∧ Builtin.Int.intBits v ≤ 100) ∧ ∀ p ∈ spots s, TurnOk s p step bound sk) :
    CallOk W 28 "_law_onward" [.dict (intsD kv), .int step, .list (flagN.map .str), .int bound, .int sk] (.val (.dict (intsD (onwZ kv step)))) :=
  law_onward_ok (n := 27) hst hl hkv P.d21 (fun x h => P.pf 26 h.ok h.hj) (fun x h => law_places_ok (n := 26) h.len h.pl h.nm P.d19 P.bRange) (fun x => law_spell_ok (n := 26) hsk P.d20 P.bRange P.bChr) (P.lev 25) P.bRange P.bSum P.bInst P.bInt P.bLen P.bSort
theorem Prg.straight (P : Prg W) {ps : List Int} {s0 s1 : Int} (hp : ∀ x ∈ ps, 0 ≤ x ∧ x ≤ 10) (hl3 : ps.length = 3) (h0 : 0 ≤ s0 ∧ s0 ≤ 3) (h1 : 0 ≤ s1 ∧ s1 ≤ 3) :
    CallOk W 28 "_law_straight" [.list (ps.map .int), .list ([s0, s1].map .int)] (.val (.dict (intsD (tidyZ (allZ ps s0 s1 3))))) :=
  law_straight_ok (n := 27) hp hl3 h0 h1 P.d22 P.bList P.bRange P.bLen P.bSet P.bSum P.bSort
end Mine
end

/-! part J6 -/
section
open PySem PySem.W PyProof.Rows PySem.Calls
set_option maxRecDepth 100000
set_option maxHeartbeats 2000000
namespace Mine
variable {W : Wd}
theorem up1 {a : Nat} (h : a ≤ 10) : a + 1 ≤ 14 := by omega
theorem le14 {a : Nat} (h : a ≤ 10) : a ≤ 14 := Nat.le_trans h (by decide)
theorem le10 {a : Nat} (h : a ≤ 4) : a ≤ 10 := Nat.le_trans h (by decide)
theorem lt256 {a : Nat} (h : a ≤ 16) : a < 2 ^ 8 := Nat.lt_of_le_of_lt h (by decide)
theorem len_ne {a : Nat} (h : 0 < a) : (a : Int) ≠ 0 := by omega
theorem fm_in {c : Int} {a : Nat} (h : 0 < a) : (c.fmod a).toNat < a := by
  obtain ⟨m, hm, hl⟩ := fm_nat c a h
  rw [hm]; exact hl
theorem plus_fm (c : Int) : ∃ b : Nat, 4 + c.fmod 3 = b ∧ 4 ≤ b := by
  obtain ⟨m, hm, h⟩ := fm_nat c 3 (by decide)
  exact ⟨4 + m, by rw [show c.fmod 3 = m from hm]; rfl, Nat.le_add_right ..⟩
theorem st14 {s : Int} (h : s ∈ ([1, 2, 3] : List Int)) : 0 ≤ s ∧ s ≤ 14 := by
  obtain ⟨h1, h2, _⟩ := step_b h
  omega
theorem st20 {s : Int} (h : s ∈ ([1, 2, 3] : List Int)) : (0 ≤ s ∧ s ≤ 20) ∧ 0 ≤ s ∧ s ≤ 3 := by
  obtain ⟨h1, h2, _⟩ := step_b h
  omega
theorem bound4 (c : Int) : ∃ b : Nat, 2 + c.fmod 4 = b ∧ 2 ≤ b ∧ b ≤ 5 := by
  obtain ⟨m, hm, h⟩ := fm_nat c 4 (by decide)
  exact ⟨2 + m, by rw [show c.fmod 4 = m from hm]; rfl, Nat.le_add_right .., Nat.add_le_add_left (Nat.le_of_lt_succ h) 2⟩
theorem three_in {pa pb pc : Nat} (ha : pa ≤ 4) (hb : pb ≤ 4) (hc : pc ≤ 4) : ∀ x ∈ [(pa : Int), (pb : Int), (pc : Int)], 0 ≤ x ∧ x ≤ 10 := by
  intro x hx
  simp only [List.mem_cons, List.not_mem_nil, or_false] at hx
  omega
theorem in8 {n : Nat} (h : n = 8) : 6 < n := by omega
theorem law_tail {SV : V} {cl : List Int} {st s0 s1 x0 x1 x2 : Int} {t1 t2 wz : List (Int × Int)} {y : Bd} {hv av : V} (P : Prg W) (hcl : cl.length = 8) (hc6 : 0 ≤ cl.getD 6 0 ∧ cl.getD 6 0 < 10 ^ 9) (hy : okB y) (S : Start st) (C : Cfg st s0 s1 t1 t2 wz) (h0 : s0 ∈ ([1, 2, 3] : List Int)) (h1 : s1 ∈ ([1, 2, 3] : List Int))
    (g0 : x0.natAbs ≤ 16) (g1 : x1.natAbs ≤ 16) (g2 : x2.natAbs ≤ 16) :
    HSq qTop W 28 (scAt 29) [.imm SV, .imm (.list (cl.map .int)), .imm (.list (flagN.map .str)), .imm (.list [.int x0, .int x1, .int x2]), .imm (.int st), .imm (.list ((plcZ st).map .int)), .imm (.list ([s0, s1].map .int)), .imm (.dict (intsD t2)), y, .unb, .imm (.dict (intsD wz)), .imm hv, .imm av, .unb, .unb, .unb, .unb, .unb, .unb, .unb, .unb, .unb, .unb, .unb, .unb]
      ([sA 14, sA 15, sA 16, sA 17] ++ ([sA 18] ++ ([sA 19, sA 20, sA 21, sA 22, sA 23, sA 24] ++ ([sA 25] ++ ([sA 26] ++ [sA 27]))))) (fnPost (.bool true)) := by
  have hb0 : Builtin.Int.intBits x0 ≤ 8 := intBits_le (lt256 g0)
  have hb1 : Builtin.Int.intBits x1 ≤ 8 := intBits_le (lt256 g1)
  have hb2 : Builtin.Int.intBits x2 ≤ 8 := intBits_le (lt256 g2)
  have hHb := hs_bits g0 g1 g2
  have hbb := base_bits hb0 hb1 hb2
  have SQ := P.splitQ hbb
  have cB := law_alternant_ok (n := 26) (p0 := 0) (p1 := 1) (p2 := 2) hb0 hb1 hb2 (by decide) (by decide) (by decide) P.d24 P.d23
  have cS := law_sums_ok (n := 27) g0 g1 g2 P.d25 P.bRange
  have tr := trudi x0 x1 x2
  have hrb := rest_bits hc6 hbb
  have cAlt := fun (p q r : Nat) (hp : p ≤ 14) (hq : q ≤ 14) (hr : r ≤ 14) => law_alternant_ok (W := W) (n := 26) (p0 := p) (p1 := q) (p2 := r) hb0 hb1 hb2 hp hq hr P.d24 P.d23
  have cJac := fun (p q r : Nat) (hp : p ≤ 10) (hq : q ≤ 10) (hr : r ≤ 10) => law_jacobi_ok (W := W) (n := 26) (p0 := p) (p1 := q) (p2 := r) hHb hp hq hr P.d26 P.d23
  have jb := fun (p q r : Nat) (hp : p ≤ 10) (hq : q ≤ 10) (hr : r ≤ 10) => jac_bits (p := p) (q := q) (r := r) hHb hp hq hr
  have ab := fun (p q r : Nat) (hp : p ≤ 14) (hq : q ≤ 14) (hr : r ≤ 14) => alt_bits (p := p) (q := q) (r := r) hb0 hb1 hb2 hp hq hr
  have cDue := fun (x : Int) (hx : Builtin.Int.intBits x ≤ 1900) => law_due_ok (W := W) (n := 27) (b := alt3 x0 x1 x2 0 1 2) hx (Nat.le_trans hrb (by decide)) P.d28 P.bStr
  have hWsum : sumW (fun k => altL x0 x1 x2 (spots k)) wz = pwZ x0 x1 x2 s0 * pwZ x0 x1 x2 s1 * altL x0 x1 x2 (plcZ st) := by
    obtain ⟨a, b, c, he, ha, hb, hc⟩ := S.h5
    obtain ⟨_, _, k0, rfl, hk0⟩ := step_b h0
    obtain ⟨_, _, k1, rfl, hk1⟩ := step_b h1
    rw [sumW_eq, ← C.es, tidy_sum (allZ_ok 3).2, he, alt_sum ha hb hc hk0 hk1]
    rfl
  obtain ⟨pa, pb, pc, hpl, hpa, hpb, hpc⟩ := S.h5
  rw [hpl, show altL x0 x1 x2 [(pa : Int), (pb : Int), (pc : Int)] = alt3 x0 x1 x2 pa pb pc from rfl] at hWsum
  have hpw0 := pw_bits hb0 hb1 hb2 h0
  have hpw1 := pw_bits hb0 hb1 hb2 h1
  rw [hpl]
  generalize hH : hsum x0 x1 x2 = H at *
  generalize hB : alt3 x0 x1 x2 0 1 2 = B at *
  generalize hR : restZ (cl.getD 6 0) B = rs at *
  generalize hP0 : pwZ x0 x1 x2 s0 = w0 at *
  generalize hP1 : pwZ x0 x1 x2 s1 = w1 at *
  have hR' := fun {a J : Int} (ha : a = B * J) (hbits : Builtin.Int.intBits (a + rs) ≤ 1800) => (hR ▸ splR (c := cl.getD 6 0) ha (by rw [hR]; exact hbits) : SplR B (a + rs) J rs)
  have hK := fun p (hp : p ∈ wz) => key_of (C.wk p hp).1
  refine HSq.app (TX.toQ (blk5 (b := B) (H := H) (x0 := x0) (x1 := x1) (x2 := x2) (Post := fun o ρ' => o = .next ∧ ρ' = [.imm SV, .imm (.list (cl.map .int)), .imm (.list (flagN.map .str)), .imm (.list [.int x0, .int x1, .int x2]), .imm (.int st), .imm (.list ([(pa : Int), (pb : Int), (pc : Int)].map .int)), .imm (.list ([s0, s1].map .int)), .imm (.dict (intsD t2)), y, .unb, .imm (.dict (intsD wz)), .imm hv, .imm av, .imm (.int B), .imm (.int rs), .imm (.list (sumsV H)), .imm (.int 0), .unb, .unb, .unb, .unb, .unb, .unb, .unb, .unb]) hcl cB cS ⟨rfl, by rw [hR]⟩)) ?_ fun o ρ' h q => absurd h.1 q
  rintro ρ' ⟨_, rfl⟩
  refine HSq.app (HSq.one (blkL (A := fun k => altL x0 x1 x2 (spots k)) (J := fun k => jac3 H (sN k 0) (sN k 1) (sN k 2)) (Post := fun o ρ' => o = .next ∧ ∃ u1 u2 u3, okB u1 ∧ okB u2 ∧ okB u3 ∧ ρ' = [.imm SV, .imm (.list (cl.map .int)), .imm (.list (flagN.map .str)), .imm (.list [.int x0, .int x1, .int x2]), .imm (.int st), .imm (.list ([(pa : Int), (pb : Int), (pc : Int)].map .int)), .imm (.list ([s0, s1].map .int)), .imm (.dict (intsD t2)), y, u1, .imm (.dict (intsD wz)), .imm hv, .imm av, .imm (.int B), .imm (.int rs), .imm (.list (sumsV H)), .imm (.int (w0 * w1 * alt3 x0 x1 x2 pa pb pc)), u2, u3, .unb, .unb, .unb, .unb, .unb, .unb]) P.bRange hy SQ
    (fun p hp => ⟨dgetZ_of C.wn hp, Nat.le_trans (bits_100 (C.wk p hp).2) (by decide)⟩)
    (fun p hp => ⟨by have K := hK p hp; have := P.pf 27 K.ok K.hj; rw [← K.nm]; exact this, by have K := hK p hp; rw [← K.nm]; exact K.hj⟩)
    (fun p hp => by
      have K := hK p hp
      have c := cAlt _ _ _ (le14 K.b0) (le14 K.b1) (le14 K.b2)
      rw [K.sp]; exact c)
    (fun p hp => by
      have K := hK p hp
      have j := cJac _ _ _ K.b0 K.b1 K.b2
      have jbb := jb _ _ _ K.b0 K.b1 K.b2
      have abb := ab _ _ _ (le14 K.b0) (le14 K.b1) (le14 K.b2)
      have t := tr (sN p.1 0) (sN p.1 1) (sN p.1 2)
      refine ⟨by rw [K.sp]; exact j, cDue _ (Nat.le_trans jbb (by decide)), ?_⟩
      have ea : altL x0 x1 x2 (spots p.1) = alt3 x0 x1 x2 (sN p.1 0) (sN p.1 1) (sN p.1 2) := rfl
      refine hR' (ea.trans t) ?_
      show Builtin.Int.intBits (altL x0 x1 x2 (spots p.1) + rs) ≤ 1800
      rw [ea]
      exact Nat.le_trans (intBits_add_le abb hrb) (by decide))
    fun u1 u2 u3 e1 e2 e3 => ⟨rfl, u1, u2, u3, e1, e2, e3, by rw [hWsum]⟩)) ?_ fun o ρ' h q => absurd h.1 q
  rintro ρ' ⟨_, u1, u2, u3, e1, e2, e3, rfl⟩
  have hwl := C.wl
  have hwp : 0 < wz.length := List.length_pos_iff.mpr C.w0
  obtain ⟨kL, hkL, hit⟩ : ∃ kL, kL ∈ k165 ∧ ((keysZ wz).map V.int)[((cl.getD 7 0).fmod wz.length).toNat]? = some (.int kL) := by
    have hlt : ((cl.getD 7 0).fmod wz.length).toNat < (keysZ wz).length := by rw [keysZ_len]; exact fm_in hwp
    refine ⟨(keysZ wz)[((cl.getD 7 0).fmod wz.length).toNat], ?_, by rw [List.getElem?_map, List.getElem?_eq_getElem hlt]; rfl⟩
    obtain ⟨v, hv⟩ := keysZ_mem (List.getElem_mem hlt)
    exact (C.wk _ (dgetZ_mem hv)).1
  have K := key_of hkL
  have jk := cJac _ _ _ K.b0 K.b1 K.b2
  have jkb := jb _ _ _ K.b0 K.b1 K.b2
  obtain ⟨bd, hbd, hbd4⟩ := plus_fm (cl.getD 7 0)
  refine HSq.app (TX.toQ (blk6 (kL := kL) (J := jac3 H (sN kL 0) (sN kL 1) (sN kL 2)) (Post := fun o ρ' => o = .next ∧ ∃ pv tv, ρ' = [.imm SV, .imm (.list (cl.map .int)), .imm (.list (flagN.map .str)), .imm (.list [.int x0, .int x1, .int x2]), .imm (.int st), .imm (.list ([(pa : Int), (pb : Int), (pc : Int)].map .int)), .imm (.list ([s0, s1].map .int)), .imm (.dict (intsD t2)), y, u1, .imm (.dict (intsD wz)), .imm hv, .imm av, .imm (.int B), .imm (.int rs), .imm (.list (sumsV H)), .imm (.int (w0 * w1 * alt3 x0 x1 x2 pa pb pc)), u2, u3, .imm (.int kL), .imm (.list ((spots kL).map .int)), .imm pv, .imm tv, .imm (.int (x0 * x1 * x2 * jac3 H (sN kL 0) (sN kL 1) (sN kL 2))), .unb])
    hcl P.bRange P.bSort P.bLen P.bStr hy e2 e3 e1 hwl (len_ne hwp) hit hb0 hb1 hb2 (by rw [K.sp]; rfl) (fun x => law_spell_ok (n := 27) (by decide) P.d20 P.bRange P.bChr) (P.lev 26) K.t0 (by rw [hbd]; exact K.t1 bd hbd4) (by rw [K.sp]; exact jk)
    fun pv tv => ⟨rfl, pv, tv, rfl⟩)) ?_ fun o ρ' h q => absurd h.1 q
  rintro ρ' ⟨_, pv, tv, rfl⟩
  have hup : alt3 x0 x1 x2 (sN kL 0 + 1) (sN kL 1 + 1) (sN kL 2 + 1) = B * (x0 * x1 * x2 * jac3 H (sN kL 0) (sN kL 1) (sN kL 2)) := by
    have t := tr (sN kL 0) (sN kL 1) (sN kL 2)
    have d := det_up (x0 ^ sN kL 0) (x0 ^ sN kL 1) (x0 ^ sN kL 2) (x1 ^ sN kL 0) (x1 ^ sN kL 1) (x1 ^ sN kL 2) (x2 ^ sN kL 0) (x2 ^ sN kL 1) (x2 ^ sN kL 2) x0 x1 x2
    have e : alt3 x0 x1 x2 (sN kL 0 + 1) (sN kL 1 + 1) (sN kL 2 + 1) = x0 * x1 * x2 * alt3 x0 x1 x2 (sN kL 0) (sN kL 1) (sN kL 2) := by
      unfold alt3
      simp only [Int.pow_succ]
      exact d
    rw [e, t, Int.mul_left_comm]
  have hprb : Builtin.Int.intBits (x0 * x1 * x2 * jac3 H (sN kL 0) (sN kL 1) (sN kL 2)) ≤ 1900 := by
    exact Nat.le_trans (intBits_mul_le (intBits_mul_le (intBits_mul_le hb0 hb1) hb2) jkb) (by decide)
  refine HSq.app (HSq.one (blkQ1 (A1 := alt3 x0 x1 x2 (sN kL 0 + 1) (sN kL 1 + 1) (sN kL 2 + 1)) SQ
    (by
      have c := cAlt (sN kL 0 + 1) (sN kL 1 + 1) (sN kL 2 + 1) (up1 K.b0) (up1 K.b1) (up1 K.b2)
      rw [K.sp]; exact c)
    (cDue _ hprb)
    (hR' hup (Nat.le_trans (intBits_add_le (ab _ _ _ (up1 K.b0) (up1 K.b1) (up1 K.b2)) hrb) (by decide))))) ?_ fun o ρ' h q => absurd h.1 q
  rintro ρ' ⟨_, rfl⟩
  refine HSq.app (TX.toQ (blk7 (x0 := x0) (x1 := x1) (x2 := x2) (Post := fun o ρ' => o = .next ∧ ρ' = [.imm SV, .imm (.list (cl.map .int)), .imm (.list (flagN.map .str)), .imm (.list [.int x0, .int x1, .int x2]), .imm (.int st), .imm (.list ([(pa : Int), (pb : Int), (pc : Int)].map .int)), .imm (.list ([s0, s1].map .int)), .imm (.dict (intsD t2)), y, u1, .imm (.dict (intsD wz)), .imm hv, .imm av, .imm (.int B), .imm (.int rs), .imm (.list (sumsV H)), .imm (.int (w0 * w1 * alt3 x0 x1 x2 pa pb pc)), u2, u3, .imm (.int kL), .imm (.list ((spots kL).map .int)), .imm pv, .imm tv, .imm (.int (x0 * x1 * x2 * jac3 H (sN kL 0) (sN kL 1) (sN kL 2))), .imm (.int (w0 * w1))])
    P.bSum (st14 h0) (st14 h1) hb0 hb1 hb2 (by rw [hP0]; exact hpw0) ⟨rfl, by rw [hP0, hP1]⟩)) ?_ fun o ρ' h q => absurd h.1 q
  rintro ρ' ⟨_, rfl⟩
  have jp := cJac pa pb pc (le10 hpa) (le10 hpb) (le10 hpc)
  have jpb := jb pa pb pc (le10 hpa) (le10 hpb) (le10 hpc)
  have hww : Builtin.Int.intBits (w0 * w1) ≤ 128 := Nat.le_trans (intBits_mul_le hpw0 hpw1) (by decide)
  refine HSq.mono (HSq.one (blkQ2 (J := jac3 H pa pb pc) SQ jp (IntMulOk.of_bits (Nat.le_trans hww (by decide)) (Nat.le_trans jpb (by decide))) (cDue _ (Nat.le_trans (intBits_mul_le hww jpb) (by decide))) (hR' ?_ ?_))) fun o ρ' h => by rw [h]; exact rfl
  · rw [tr, Int.mul_left_comm]
  · exact Nat.le_trans (intBits_add_le (intBits_mul_le hww (ab pa pb pc (le14 (le10 hpa)) (le14 (le10 hpb)) (le14 (le10 hpc)))) hrb) (by decide)
theorem body_eq : bodyAt 29 = [sA 0, sA 1, sA 2, sA 3, sA 4, sA 5, sA 6] ++ ([sA 7] ++ ([sA 8, sA 9] ++ ([sA 10, sA 11, sA 12, sA 13] ++ ([sA 14, sA 15, sA 16, sA 17] ++ ([sA 18] ++ ([sA 19, sA 20, sA 21, sA 22, sA 23, sA 24] ++ ([sA 25] ++ ([sA 26] ++ [sA 27])))))))) := rfl
theorem law_run (P : Prg W) {ns : List Int} (hns : ns.length ≤ 63) : HSq qTop W 28 (scAt 29) [.imm (.list (ns.map .int)), .unb, .unb, .unb, .unb, .unb, .unb, .unb, .unb, .unb, .unb, .unb, .unb, .unb, .unb, .unb, .unb, .unb, .unb, .unb, .unb, .unb, .unb, .unb, .unb] (bodyAt 29) (fnPost (.bool true)) := by
  rw [body_eq]
  generalize hSV : V.list (ns.map .int) = SV
  refine HSq.app (Mid := fun o ρ' => o = .next ∧ ∃ (cl : List Int) (st : Int), cl.length = 8 ∧ (∀ c ∈ cl, 0 ≤ c ∧ c < 10 ^ 9) ∧ st = startL.getD ((cl.getD 3 0).fmod 10).toNat 0 ∧ ρ' = [.imm SV, .imm (.list (cl.map .int)), .imm (.list (flagN.map .str)), .imm (.list (((rangeInts 0 1 3).map (numK cl)).map .int)), .imm (.int st), .imm (.list ((plcZ st).map .int)), .imm (.list ([1 + (cl.getD 4 0).fmod 3, 1 + (cl.getD 5 0).fmod 3].map .int)), .imm (.dict (intsD [(st, 1)])), .unb, .unb, .unb, .unb, .unb, .unb, .unb, .unb, .unb, .unb, .unb, .unb, .unb, .unb, .unb, .unb, .unb]) (TX.toQ ?_) ?_ fun o ρ' h q => absurd h.1 q
  · rw [← hSV]
    exact blk1a P.bEnum P.bSum hns fun cl hcl hcb => blk1 P.bRange hcl (law_names_ok (n := 27) P.d18 P.bRange) fun st hst => ⟨rfl, cl, st, hcl, hcb, hst, rfl⟩
  rintro ρ' ⟨_, cl, st, hcl, hcb, hst, rfl⟩
  have hstm : st ∈ startL := by rw [hst]; exact start_in _
  have hc6 : 0 ≤ cl.getD 6 0 ∧ cl.getD 6 0 < 10 ^ 9 := by
    rw [List.getD_eq_getElem?_getD, List.getElem?_eq_getElem (in8 hcl)]
    exact hcb _ (List.getElem_mem _)
  have hnum : ((rangeInts 0 1 3).map (numK cl)).map V.int = [.int (numK cl 0), .int (numK cl 1), .int (numK cl 2)] := rfl
  rw [hnum]
  have g0 := num_bound cl (k := 0) (.inl rfl)
  have g1 := num_bound cl (k := 1) (.inr rfl)
  have g2 := num_bound cl (k := 2) (.inl rfl)
  have h0 := mem123 (cl.getD 4 0)
  have h1 := mem123 (cl.getD 5 0)
  have hsk := mem013 (cl.getD 7 0)
  generalize numK cl 0 = x0 at g0 ⊢
  generalize numK cl 1 = x1 at g1 ⊢
  generalize numK cl 2 = x2 at g2 ⊢
  generalize 1 + (cl.getD 4 0).fmod 3 = s0 at h0 ⊢
  generalize 1 + (cl.getD 5 0).fmod 3 = s1 at h1 ⊢
  obtain ⟨t1, t2, wz, C⟩ := cfg_of hstm h0 h1
  have S := start_of hstm
  have hskb : Builtin.Int.intBits (skZ (cl.getD 7 0)) ≤ 100 := by
    simp only [List.mem_cons, List.not_mem_nil, or_false] at hsk
    rcases hsk with h | h | h <;> rw [h] <;> decide
  obtain ⟨bd, hbd, hbd2⟩ := bound4 (cl.getD 7 0)
  have o1 := P.onward (step := s0) (bound := bd) (st20 h0).1 hskb (show ([(st, 1)] : List (Int × Int)).length ≤ 12 from Nat.le_of_ble_eq_true rfl) (on_ok C.a0 h0 hsk hbd2)
  have o2 := P.onward (step := s1) (bound := bd) (st20 h1).1 hskb C.l1 (on_ok C.a1 h1 hsk hbd2)
  rw [C.e1] at o1
  rw [C.e2] at o2
  obtain ⟨pa, pb, pc, hpl, hpa, hpb, hpc⟩ := S.h5
  have cSt := P.straight (ps := plcZ st) (s0 := s0) (s1 := s1) (by rw [hpl]; exact three_in hpa hpb hpc) (by rw [hpl]; rfl) (st20 h0).2 (st20 h1).2
  rw [C.es, ← C.ew] at cSt
  refine HSq.app (Mid := fun o ρ' => o = .next ∧ ∃ y, okB y ∧ ρ' = [.imm SV, .imm (.list (cl.map .int)), .imm (.list (flagN.map .str)), .imm (.list [.int x0, .int x1, .int x2]), .imm (.int st), .imm (.list ((plcZ st).map .int)), .imm (.list ([s0, s1].map .int)), .imm (.dict (intsD t2)), y, .unb, .unb, .unb, .unb, .unb, .unb, .unb, .unb, .unb, .unb, .unb, .unb, .unb, .unb, .unb, .unb]) (TX.toQ (blk2 hcl (by rw [hbd]; exact o1) (by rw [hbd]; exact o2) fun y hy => ⟨rfl, y, hy, rfl⟩)) ?_ fun o ρ' h q => absurd h.1 q
  rintro ρ' ⟨_, y, hy, rfl⟩
  refine HSq.app (Mid := fun o ρ' => o = .next ∧ ρ' = [.imm SV, .imm (.list (cl.map .int)), .imm (.list (flagN.map .str)), .imm (.list [.int x0, .int x1, .int x2]), .imm (.int st), .imm (.list ((plcZ st).map .int)), .imm (.list ([s0, s1].map .int)), .imm (.dict (intsD t2)), y, .unb, .imm (.dict (intsD (tidyZ t2))), .unb, .unb, .unb, .unb, .unb, .unb, .unb, .unb, .unb, .unb, .unb, .unb, .unb, .unb]) (TX.toQ (blk3 hy C.l2 C.n2 P.bSort cSt ⟨rfl, rfl⟩)) ?_ fun o ρ' h q => absurd h.1 q
  rintro ρ' ⟨_, rfl⟩
  rw [C.ew]
  have f1 := P.pf 27 S.h1 S.h2
  have f3 := P.pf 27 (S.h7 (cl.getD 7 0)).1 (S.h7 (cl.getD 7 0)).2.1
  have f2 := P.pf 27 zero_ok.1 zero_ok.2.1
  unfold flagT at f1 f2 f3
  rw [S.h3] at f1
  rw [(S.h7 (cl.getD 7 0)).2.2] at f3
  rw [zero_ok.2.2] at f2
  refine HSq.app (Mid := fun o ρ' => o = .next ∧ ∃ hv av : V, ρ' = [.imm SV, .imm (.list (cl.map .int)), .imm (.list (flagN.map .str)), .imm (.list [.int x0, .int x1, .int x2]), .imm (.int st), .imm (.list ((plcZ st).map .int)), .imm (.list ([s0, s1].map .int)), .imm (.dict (intsD t2)), y, .unb, .imm (.dict (intsD wz)), .imm hv, .imm av, .unb, .unb, .unb, .unb, .unb, .unb, .unb, .unb, .unb, .unb, .unb, .unb]) (TX.toQ (blk4 hcl P.bRange S.h6 (by rw [hpl]; exact Nat.le_of_ble_eq_true rfl) (by rw [← S.h3]; exact S.h2) f1 (by rw [S.h4]; exact f2) (by rw [← (S.h7 (cl.getD 7 0)).2.2]; exact (S.h7 (cl.getD 7 0)).2.1) f3 fun hv av => ⟨rfl, hv, av, rfl⟩)) ?_ fun o ρ' h q => absurd h.1 q
  rintro ρ' ⟨_, hv, av, rfl⟩
  exact law_tail P hcl hc6 hy S C h0 h1 g0 g1 g2
end Mine
end

/-! part JH -/
section
open PySem PySem.W PyProof.Rows PySem.Calls
set_option maxRecDepth 100000
namespace Mine
/-! what is looked at behind the top: the tables of two codes, one table of texts -/
noncomputable def gval (h : Heap) (x : Str) : Option Value :=
  match h.get? mainGlobals with
  | some o => (match o.data with | .dict es _ => nsFind es x | _ => none)
  | none => none
theorem gval_ns {h : Heap} {mg : Str → Option Value} (G : h.Ns mainGlobals mg) (x : Str) : gval h x = mg x := by
  obtain ⟨o, es, ep, ho, hd, _, hf⟩ := G
  unfold gval
  rw [ho]
  dsimp only
  rw [hd]
  exact hf x
noncomputable def codeTab : Option Obj → Option Addr
  | some ⟨_, _, .fields vs, _⟩ => (match (vs[11]? : Option Value) with | some (.ref P) => some P | _ => none)
  | _ => none
noncomputable def fnCode : Option Obj → Option Addr
  | some ⟨_, _, .func fd, _⟩ => (match fd.code with | .ref c => some c | _ => none)
  | _ => none
noncomputable def refOf : Option Value → Option Addr
  | some (.ref a) => some a
  | _ => none
theorem refOf_at {v : Option Value} {a : Addr} (e : refOf v = some a) : v = some (.ref a) := by
  unfold refOf at e
  split at e
  · cases e; rfl
  · cases e
noncomputable def tabOf (h : Heap) (x : Str) : Option Addr := (refOf (gval h x)).bind fun a => (fnCode (h.get? a)).bind fun c => codeTab (h.get? c)
theorem tabOf_top {p : Program} {loose : List Str} {mean : ExcName → Option Value} {mg mb : Str → Option Value} {h : Heap} (T : Top p loose mean mg mb h) {d : DefRec} (hd : d ∈ recsOf p) :
    ∃ a o fd c P, mg d.name = some (.ref a) ∧ h.get? a = some o ∧ o.data = .func fd ∧ fd.code = .ref c ∧ CodeHd h c P ∧ h.get? P = some (tabObj #[]) ∧ tabOf h d.name = some P := by
  obtain ⟨a, o, fd, c, P, h1, h2, h3, h4, h5, h6⟩ := T.tab d hd
  refine ⟨a, o, fd, c, P, h1, h2, h3, h4, CodeHd.of h5 h6, h6.2, ?_⟩
  obtain ⟨⟨oc, vs, g1, g2, g3, g4⟩, g5⟩ := h6
  obtain ⟨oc', od, odt, osl⟩ := oc
  obtain ⟨o', od', odt', osl'⟩ := o
  dsimp only at g3 h3
  subst g3 h3
  unfold tabOf
  rw [gval_ns T.g, h1]
  show (fnCode (h.get? a)).bind _ = _
  rw [h2]
  show (match fd.code with | .ref c => some c | _ => none).bind _ = _
  rw [h4]
  show codeTab (h.get? c) = _
  rw [g1]
  show (match (vs[11]? : Option Value) with | some (.ref P) => some P | _ => none) = _
  rw [g4]
noncomputable def clsDict : Value → Bool
  | .type T => T == "dict"
  | _ => false
theorem clsDict_at {v : Value} (h : clsDict v = true) : v = .type "dict" := by
  unfold clsDict at h
  split at h
  · rw [beq_iff_eq.mp h]
  · cases h
noncomputable def dictIn (o : Option Obj) : Option (List DictEntry × Nat) :=
  o.bind fun o => (match o.data with | .dict es n => some (es, n) | _ => none).bind fun q =>
    if clsDict o.cls && (o.dict.isNone && o.slots.size == 0) then some (q.1.toList, q.2) else none
theorem dictIn_at {o : Option Obj} {es : List DictEntry} {n : Nat} (e : dictIn o = some (es, n)) : o = some (dobj es n) := by
  obtain ⟨ob, rfl, e1⟩ := Option.bind_eq_some_iff.mp e
  obtain ⟨q, e2, e3⟩ := Option.bind_eq_some_iff.mp e1
  have hd : ob.data = .dict q.1 q.2 := by
    split at e2
    · rename_i h; cases e2; exact h
    · cases e2
  split at e3
  · rename_i h
    simp only [Bool.and_eq_true, beq_iff_eq, Option.isNone_iff_eq_none] at h
    obtain ⟨h1, h2, h3⟩ := h
    have hc := clsDict_at h1
    have hs := Array.eq_empty_of_size_eq_zero h3
    cases e3
    obtain ⟨c, d, dt, sl⟩ := ob
    subst hc hd h2 hs
    rw [dobj, Array.toArray_toList]
  · cases e3
noncomputable def lookTab (h : Heap) (x : Str) (l : List (Int × Str)) : Bool :=
  ((refOf (gval h x)).bind fun a => (dictIn (h.get? a)).bind fun q => if a != sysModules && tabB l q.1 then some () else none).isSome
theorem lookTab_at {h : Heap} {x : Str} {l : List (Int × Str)} (e : lookTab h x l = true) : ∃ a es n, gval h x = some (.ref a) ∧ (a == sysModules) = false ∧ h.get? a = some (dobj es n) ∧ tabB l es = true := by
  obtain ⟨u, e⟩ := Option.isSome_iff_exists.mp e
  obtain ⟨a, e1, e2⟩ := Option.bind_eq_some_iff.mp e
  obtain ⟨q, e3, e4⟩ := Option.bind_eq_some_iff.mp e2
  split at e4
  · rename_i hb
    rw [Bool.and_eq_true] at hb
    refine ⟨a, q.1, q.2, refOf_at e1, by simpa using hb.1, dictIn_at e3, hb.2⟩
  · cases e4
theorem gval_keep {h h' : Heap} {x : Str} {v : Value} (k : ∀ b o, h.get? b = some o → h'.get? b = some o) (e : gval h x = some v) : gval h' x = some v := by
  unfold gval at e ⊢
  cases q : h.get? mainGlobals with
  | none => rw [q] at e; cases e
  | some o => rw [k _ _ q]; rw [q] at e; exact e
theorem tabOf_keep {h h' : Heap} {x : Str} {P : Addr} (k : ∀ b o, h.get? b = some o → h'.get? b = some o) (e : tabOf h x = some P) : tabOf h' x = some P := by
  unfold tabOf at e ⊢
  obtain ⟨a, h1, h2⟩ := Option.bind_eq_some_iff.mp e
  obtain ⟨c, h3, h4⟩ := Option.bind_eq_some_iff.mp h2
  rw [gval_keep k (refOf_at h1)]
  show ((fnCode (h'.get? a)).bind fun c => codeTab (h'.get? c)) = _
  cases q : h.get? a with
  | none => rw [q] at h3; cases h3
  | some o =>
    rw [k _ _ q, ← q, h3]
    show codeTab (h'.get? c) = _
    cases q' : h.get? c with
    | none => rw [q'] at h4; cases h4
    | some o' => rw [k _ _ q', ← q']; exact h4
structure LookAt (h : Heap) (t4 t5 : Addr) (l : List (Int × Str)) : Prop where
  t4 : tabOf h "_int2digits" = some t4
  t5 : tabOf h "_digits2int" = some t5
  fl : ∃ a es n, gval h "COMPILER_FLAG_NAMES" = some (.ref a) ∧ (a == sysModules) = false ∧ h.get? a = some (dobj es n) ∧ tabB l es = true
/-- what the head hands over besides -/
noncomputable def lHook (t4 t5 : Addr) (l : List (Int × Str)) : Hook where
  α := Option Addr × Option Addr × Bool
  obs := fun s => (tabOf s.heap "_int2digits", tabOf s.heap "_digits2int", lookTab s.heap "COMPILER_FLAG_NAMES" l)
  val := fun _ => (some t4, some t5, true)
  says := fun _ h => LookAt h t4 t5 l
  of := fun w s e => by
    obtain ⟨h1, h2⟩ := Prod.mk.inj e
    obtain ⟨h2, h3⟩ := Prod.mk.inj h2
    exact ⟨h1, h2, lookTab_at h3⟩
  keeps := fun w h h' x k => ⟨tabOf_keep k x.t4, tabOf_keep k x.t5, by
    obtain ⟨a, es, n, h1, h2, h3, h4⟩ := x.fl
    exact ⟨a, es, n, gval_keep k h1, h2, k _ _ h3, h4⟩⟩
section
variable {p : Program} {loose : List Str} {mean : ExcName → Option Value} {mg mb : Str → Option Value} {h : Heap} (prog : Program) (w : World) (T : Top p loose mean mg mb h) (tq : List (Addr × Addr × Str)) (hT : TabsAt (tq.map fun q => (q.1, q.2.1)) h) (hu : ∀ q ∈ tq, ∀ r ∈ tq, q.2.1 = r.2.1 → q.2.2 = r.2.2)
theorem mkW_flags {x : Str} {l : List (Int × Str)} (hl : ∃ a es n, gval h x = some (.ref a) ∧ (a == sysModules) = false ∧ h.get? a = some (dobj es n) ∧ tabB l es = true) (hn : (l.map (·.1)).Nodup) :
    ∃ y, (mkW prog w T tq hT hu).mg x = some y ∧ Rep (mkW prog w T tq hT hu).base.get? (.dict (l.map fun p => (p.1, .str p.2))) y := by
  obtain ⟨a, es, n, h1, h2, h3, h4⟩ := hl
  rw [gval_ns T.g] at h1
  refine ⟨.ref a, h1, .dict h2 (ghost_ext hT a _ h3 notTab_d) (tabB_rep _ _ h4) ?_⟩
  rw [List.map_map]
  exact hn
theorem mkW_dT {x q : Str} {a : Arguments} {b : List Stmt} {sc : Scope} {d : DefRec} {A : Addr} {o : Obj} {fd : FuncData} {c P : Addr} (hr : (recsOf p).find? (fun e => e.name == x) = some d) (ha : d.params = a) (hb : d.body = b) (hs : d.scope = sc)
    (e1 : mg d.name = some (.ref A)) (e2 : h.get? A = some o) (e3 : o.data = .func fd) (e4 : fd.code = .ref c) (hq : (c, P, q) ∈ tq) :
    ∃ c T', DefAtC (mkW prog w T tq hT hu) x a b sc (.ref c) ∧ (c, T', q) ∈ (mkW prog w T tq hT hu).tabs := by
  have hn : d.name = x := beq_iff_eq.mp (List.find?_some (p := fun e : DefRec => e.name == x) hr)
  obtain ⟨A', o', pm, cd, doc, h1, h2, h3, h4⟩ := T.fn d (List.mem_of_find?_eq_some hr)
  rw [e1] at h1
  cases h1
  rw [e2] at h2
  cases h2
  rw [e3] at h3
  cases h3
  replace e4 : cd = .ref c := e4
  subst e4
  subst ha hb hs hn
  exact ⟨c, P, ⟨A, o, pm, doc, e1, ghost_ext hT A o e2 (fun ⟨ps, q, _⟩ => by subst q; cases e3), e3, CodeRec.keepsT h4 (ghost_ext hT)⟩, hq⟩
end
end Mine
end

/-! part JE -/
section
open PySem PySem.W PyProof.Rows PySem.Calls
set_option maxRecDepth 100000
namespace Mine
/-- the law's call, behind the head -/
theorem law_end1 {W : Wd} {s₁ : Shared} {fa l : Addr} {vs : List Value} {ns : List Int} {Q : Value → Shared → Prop} {E : Value → Shared → Prop} {m : Nat} (P : Prg W) (hns : ns.length ≤ 63) (hmg : W.mg "law" = some (.ref fa))
    (hb : Bs W W.base.get? s₁.heap) (hsub : ∀ a o, W.base.get? a = some o → s₁.heap.get? a = some o) (hl : W.base.get? l = some (lobj vs m)) (hI : IntsAre vs ns) (room : Room 29 callerA)
    (hQ : ∀ h' tk, (∀ b o, W.base.get? b = some o → h'.get? b = some o) → (∀ q ∈ W.tabs, ∃ ps, h'.get? q.2.1 = some (tabObj ps)) → Q (.bool true) { s₁ with heap := h', toks := tk }) :
    wpAny W.M callerA (call (.ref fa) [.ref l]) Q E s₁ := by
  obtain ⟨a, o, pm, cd, doc, h1, h2, h3, h4⟩ := P.d29
  rw [hmg] at h1
  cases h1
  refine callE (vs := [.list (ns.map .int)]) h2 h3 h4 K29 rfl room hb hsub (.one (.list hl (ints_rep hI))) fun env h₁ tk _ _ hfr _ _ st => ?_
  rw [F29.nm] at st
  refine law_run P hns env (callerA.deeper env) s₁.heap.get? W.base.get? { s₁ with heap := h₁, toks := tk } _ _ ⟨rfl, hfr⟩ st ?_
  intro fl o ρ' f' h' tk' g st' fo hp
  have kk : Ok W W.base.get? f' s₁.heap h' := ⟨fun a o e c => (st'.pin a o e).1 c, fun a o e c => (st'.pin a o e).2 c, fun _ => st'.pre.base.tabs, g.le, st'.pre.sub, fun a o e => g.new a o e⟩
  have fin : Q (.bool true) { s₁ with heap := h', toks := tk' } := hQ h' tk' (fun b o e => kk.sub b o (kk.le b o e)) fun q hq => by
    obtain ⟨ps, hp, _⟩ := kk.tabs hb.tabs q hq
    exact ⟨ps, hp⟩
  cases o with
  | next => cases hp
  | ret v => cases fl with
    | ret v' =>
      obtain rfl : v = .bool true := hp
      obtain rfl := Rep.bool_inv fo
      exact fin
    | _ => exact fo.elim
  | _ => exact hp.elim
end Mine
end

/-! part K01 -/
section
open PySem PySem.W PyProof.Rows
set_option Elab.async false
set_option maxRecDepth 100000
set_option maxHeartbeats 8000000
namespace Mine
noncomputable def view01 : Program := { PW with main := { PW.main with body := ([1, 2, 3, 4, 5, 6, 7, 9, 10, 12, 13, 14, 15, 16, 18, 19, 20, 21, 22, 23, 24, 25, 26, 27, 28, 29] : List Nat).filterMap (PW.main.body[·]?) } }
noncomputable def loose01 : List Str := ["COMPILER_FLAG_NAMES"]
noncomputable def posAt (i : Nat) : Pos := match PW.main.body[i]? with | some (.FunctionDef _ _ _ _ _ _ _ _ _ p) => p | _ => default
noncomputable def dLaw : DefRec := ⟨"law", parAt 29, bodyAt 29, scAt 29, posAt 29⟩
noncomputable def H01 : Hook := lHook 30 37 flagTab
noncomputable abbrev rO : OpenRow := PySem.Challenge.rw_rw0078_01.row
noncomputable abbrev rW : RowW := rO.toRowW
noncomputable def xt01 : Shared → Bool := fun s => xlAt view01 [] s && recOk (RowW.records rW) s
theorem said01 : PySem.Challenge.rw_rw0078_01.wellSaid = true := by kernel_rfl
theorem left01 : LeftO rO.prog view01 loose01 xt01 H01.obs H01.val 2400 := by
  refine LeftO.of_split "special-get-raises" ?_
  intro w
  kernel_rfl
end Mine
end

/-! part L01 -/
section
open PySem PySem.W PyProof.Rows
set_option Elab.async false
set_option maxRecDepth 100000
set_option maxHeartbeats 8000000
namespace Mine
theorem call01 : WalkO view01 loose01 (XL view01 []) H01.says rW dLaw [] (fun f vs => PySem.call f vs) := by
  intro w s₀ s₁ mg mb G Y fa o pm cd doc dV kV ho hd hcd hD hmg hg args vals as hpre hlay hrd hwl hlo
  have T := G.T
  have Y' : LookAt s₁.heap 30 37 flagTab := Y
  obtain ⟨d4, r4, a4, b4, s4⟩ := find_def (p := view01) (x := "_int2digits") (a := parAt 4) (b := bodyAt 4) (sc := scAt 4) (by kernel_rfl)
  obtain ⟨d5, r5, a5, b5, s5⟩ := find_def (p := view01) (x := "_digits2int") (a := parAt 5) (b := bodyAt 5) (sc := scAt 5) (by kernel_rfl)
  obtain ⟨A4, o4, f4, c4, P4, e41, e42, e43, e44, e45, e46, e47⟩ := tabOf_top T (List.mem_of_find?_eq_some r4)
  obtain ⟨A5, o5, f5, c5, P5, e51, e52, e53, e54, e55, e56, e57⟩ := tabOf_top T (List.mem_of_find?_eq_some r5)
  have n4 : d4.name = "_int2digits" := beq_iff_eq.mp (List.find?_some (p := fun e : DefRec => e.name == "_int2digits") r4)
  have n5 : d5.name = "_digits2int" := beq_iff_eq.mp (List.find?_some (p := fun e : DefRec => e.name == "_digits2int") r5)
  rw [n4, Y'.t4] at e47
  rw [n5, Y'.t5] at e57
  cases e47
  cases e57
  generalize htq : ([(c4, 30, "_int2digits.<locals>.inner"), (c5, 37, "_digits2int.<locals>.inner")] : List (Addr × Addr × Str)) = tq
  have hT : TabsAt (tq.map fun q => (q.1, q.2.1)) s₁.heap := by
    rw [← htq]
    exact List.forall_mem_cons.mpr ⟨⟨e45, e46⟩, List.forall_mem_cons.mpr ⟨⟨e55, e56⟩, fun _ h => nomatch h⟩⟩
  have hu : ∀ q ∈ tq, ∀ r ∈ tq, q.2.1 = r.2.1 → q.2.2 = r.2.2 := by
    rw [← htq]
    intro q hq r hr e
    simp only [List.mem_cons, List.not_mem_nil, or_false] at hq hr
    rcases hq with rfl | rfl <;> rcases hr with rfl | rfl <;> first | rfl | cases e
  have m4 : (c4, 30, ("_int2digits.<locals>.inner" : Str)) ∈ tq := by rw [← htq]; exact .head _
  have m5 : (c5, 37, ("_digits2int.<locals>.inner" : Str)) ∈ tq := by rw [← htq]; exact .tail _ (.head _)
  have P : Prg (mkW rW.prog w T tq hT hu) := {
    d2 := mkW_d _ w T tq hT hu (by kernel_rfl)
    d4 := mkW_dT _ w T tq hT hu r4 a4 b4 s4 e41 e42 e43 e44 m4
    d5 := mkW_dT _ w T tq hT hu r5 a5 b5 s5 e51 e52 e53 e54 m5
    d6 := mkW_d _ w T tq hT hu (by kernel_rfl)
    d7 := mkW_d _ w T tq hT hu (by kernel_rfl)
    d10 := mkW_d _ w T tq hT hu (by kernel_rfl)
    d15 := mkW_d _ w T tq hT hu (by kernel_rfl)
    d16 := mkW_d _ w T tq hT hu (by kernel_rfl)
    kDiv := mkW_int _ w T tq hT hu (by kernel_rfl)
    kMove := mkW_int _ w T tq hT hu (by kernel_rfl)
    kCase := mkW_int _ w T tq hT hu (by kernel_rfl)
    kMax := mkW_int _ w T tq hT hu (by kernel_rfl)
    kFlag := mkW_flags _ w T tq hT hu (l := flagTab) Y'.fl (by decide)
    bDivmod := mkW_bi _ w T tq hT hu (by kernel_rfl) (by decide +kernel)
    bLen := mkW_bi _ w T tq hT hu (by kernel_rfl) (by decide +kernel)
    bRev := mkW_bi _ w T tq hT hu (by kernel_rfl) (by decide +kernel)
    bRange := mkW_bi _ w T tq hT hu (by kernel_rfl) (by decide +kernel)
    bHex := mkW_bi _ w T tq hT hu (by kernel_rfl) (by decide +kernel)
    bMin := mkW_bi _ w T tq hT hu (by kernel_rfl) (by decide +kernel)
    bList := mkW_bi _ w T tq hT hu (by kernel_rfl) (by decide +kernel)
    bStr := mkW_bi _ w T tq hT hu (by kernel_rfl) (by decide +kernel)
    bInst := mkW_bi _ w T tq hT hu (by kernel_rfl) (by decide +kernel)
    bTup := mkW_bi _ w T tq hT hu (by kernel_rfl) (by decide +kernel)
    bSum := mkW_bi _ w T tq hT hu (by kernel_rfl) (by decide +kernel)
    bEnum := mkW_bi _ w T tq hT hu (by kernel_rfl) (by decide +kernel)
    bSort := mkW_bi _ w T tq hT hu (by kernel_rfl) (by decide +kernel)
    bSet := mkW_bi _ w T tq hT hu (by kernel_rfl) (by decide +kernel)
    bInt := mkW_bi _ w T tq hT hu (by kernel_rfl) (by decide +kernel)
    bChr := mkW_bi _ w T tq hT hu (by kernel_rfl) (by decide +kernel)
    bZde := mkW_bi _ w T tq hT hu (by kernel_rfl) (by decide +kernel)
    d18 := mkW_d _ w T tq hT hu (by kernel_rfl)
    d19 := mkW_d _ w T tq hT hu (by kernel_rfl)
    d20 := mkW_d _ w T tq hT hu (by kernel_rfl)
    d21 := mkW_d _ w T tq hT hu (by kernel_rfl)
    d22 := mkW_d _ w T tq hT hu (by kernel_rfl)
    d23 := mkW_d _ w T tq hT hu (by kernel_rfl)
    d24 := mkW_d _ w T tq hT hu (by kernel_rfl)
    d25 := mkW_d _ w T tq hT hu (by kernel_rfl)
    d26 := mkW_d _ w T tq hT hu (by kernel_rfl)
    d27 := mkW_d _ w T tq hT hu (by kernel_rfl)
    d28 := mkW_d _ w T tq hT hu (by kernel_rfl)
    d29 := mkW_d _ w T tq hT hu (by kernel_rfl) }
  have room : Room 29 callerA := ⟨rfl, by decide, by decide⟩
  have hbs := mkW_bs rW.prog w T tq hT hu
  have hmg' : (mkW rW.prog w T tq hT hu).mg "law" = some (.ref fa) := hmg
  wrow_args hpre hlay hrd hwl hlo
  all_goals (
    obtain ⟨m, hlst⟩ := script_at (by assumption) (by assumption)
    refine law_end1 P ?hns hmg' hbs (fun a o e => of_hideAll _ e) (ghost_ext hT _ _ hlst notTab_l) (by assumption) room fun h' tk keep grown => ?_
    case hns => omega
    refine good_true hT hg (fun _ _ => rfl) ?_ keep ?_
    · wrow_post
    · intro q hq; obtain ⟨r, hr, rfl⟩ := List.mem_map.mp hq; exact grown r hr)
end Mine
end

section
open PySem PySem.W PyProof.Rows Mine
set_option maxRecDepth 100000 in
set_option maxHeartbeats 8000000 in
theorem PySem.Challenge.cw_rw0078_01_holds : PySem.Challenge.rw_rw0078_01.Holds := by
  refine holds_law said01 fun said => ?_
  refine holds_open (d := dLaw) (kwd := []) (q := view01) (loose := loose01) (Xt := xt01) (XP := XL view01 []) (Yf := H01.obs) (Ya := H01.val) (YP := H01.says) (N := 2400) left01 H01.of H01.keeps
    (fun s e => xl_of s (Bool.and_eq_true_iff.mp e).1) XL.keeps (by kernel_rfl) (by kernel_rfl) (by kernel_rfl) (fun s e => recFacts_of (Bool.and_eq_true_iff.mp e).2) (by kernel_rfl) said (by decide +kernel) ⟨rfl, rfl, rfl, rfl, rfl, by decide +kernel⟩ ?hw call01
  case hw => w_witness2
end
